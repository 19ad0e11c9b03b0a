import Derived.Test.Qxb6619464aPlaced
namespace Go.Proofs.Qxb6619464a
open Go.ChangeShapes Go.WideShapes Go.RowKit Go.Maps

/-- WHAT IS KNOWN OF THE SLICE OF PUTS. -/
def PutsAt (w : World) (a : Option Addr) (n : Nat) (K : Nat → ByteArray) (V : Nat → Int) : Prop :=
  0 < n → ∃ b off, a = some ⟨b, off, none⟩ ∧ b < w.heap.size ∧ ∀ j, j < n → w.cell? ⟨b, off + j * 2, none⟩ = some (.string (K j)) ∧ w.cell? ⟨b, off + j * 2 + 1, none⟩ = some (.int .i64 (V j))

/-- WHAT A BOUND ON LENGTHS ANSWERS: some bool; where it is true, P holds. -/
def Bounded (P : Prop) (w : World) (e : Ending) (w' : World) : Prop := ∃ bo, e = .returned (.bool bo) ∧ w = w' ∧ (bo = true → P)
theorem Bounded.no {P : Prop} {w : World} : Bounded P w (.returned (.bool false)) w := ⟨false, rfl, rfl, fun h => by cases h⟩
theorem Bounded.yes {P : Prop} {w : World} (h : P) : Bounded P w (.returned (.bool true)) w := ⟨true, rfl, rfl, fun _ => h⟩

def SmallPuts (s : ByteArray) (n : Nat) (K : Nat → ByteArray) : Prop := s.size ≤ 1048576 ∧ n ≤ 1048576 ∧ ∀ j, j < n → (K j).size ≤ 1048576

set_option maxHeartbeats 400000 in
theorem zz13 (s : ByteArray) (a : Option Addr) (n c : Nat) (K : Nat → ByteArray) (V : Nat → Int) (w : World) (hs : s.size ≤ 9223372036854775807) (hn : n ≤ 9223372036854775807) (hk : ∀ j, (K j).size ≤ 9223372036854775807)
    (hA : PutsAt w a n K V) :
    Calls Try.prog 13 #[.string s, .slice a n c] w (Bounded (SmallPuts s n K) w) := by
  by_cases h1 : s.size ≤ 1048576
  · by_cases h2 : s.size + n ≤ 1048576
    · have d1 : decide ((1048576 : Int) < (s.size : Int)) = false := by simp; omega
      have d2 : decide ((1048576 : Int) < (n : Int)) = false := by simp; omega
      have d3 : decide ((1048576 : Int) < (s.size : Int) + (n : Int)) = false := by simp; omega
      go_enter Try.func13, Try.ntmps13
      go_wp2
      go_loop [5, 6] (fun z i => ∃ k t : Nat, k ≤ n ∧ i = .int .i64 k ∧ z = .int .i64 t ∧ t ≤ 1048576 ∧ ∀ j, j < k → (K j).size ≤ 1048576) (fun _ i => n - (intOf i).toNat)
      case atStart => exact ⟨0, s.size + n, by omega, rfl, by go_num, by omega, fun j hj => absurd hj (by omega)⟩
      case round =>
        obtain ⟨k, t, hkn, rfl, rfl, ht, hall⟩ := hrel
        have HALL := hide hall
        clear hall
        by_cases hlt : k < n
        · obtain ⟨b, off, rfl, hb, hc⟩ := hA (by omega)
          have g0 := (hc k hlt).1
          have gk := hk k
          clear hc hA hk
          generalize hKk : K k = x at *
          have HK := hide hKk
          clear hKk
          by_cases h3 : x.size ≤ 1048576
          · by_cases h4 : t + x.size ≤ 1048576
            · go_wp2
              go_round
              case rel => exact ⟨k + 1, t + x.size, by omega, by go_num, by go_num, h4, fun j hj => by
                by_cases e : j = k
                · rw [e, unhide HK]; exact h3
                · exact unhide HALL j (by omega)⟩
              case measure => simp [intOf]; omega
            · go_wp2
              go_ret
              exact Bounded.no
          · go_wp2
            go_ret
            exact Bounded.no
        · obtain rfl : k = n := by omega
          go_wp2
          go_ret
          exact Bounded.yes ⟨h1, by omega, unhide HALL⟩
    · by_cases h3 : n ≤ 1048576
      · go_enter Try.func13, Try.ntmps13
        go_wp2
        go_ret
        exact Bounded.no
      · go_enter Try.func13, Try.ntmps13
        go_wp2
        go_ret
        exact Bounded.no
  · go_enter Try.func13, Try.ntmps13
    go_wp2
    go_ret
    exact Bounded.no
end Go.Proofs.Qxb6619464a

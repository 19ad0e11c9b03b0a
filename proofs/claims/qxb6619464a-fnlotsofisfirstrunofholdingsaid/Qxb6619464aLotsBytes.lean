import Derived.Test.Qxb6619464aLotsOf
namespace Go.Proofs.Qxb6619464a
open Go.ChangeShapes Go.WideShapes Go.RowKit

/-- WHAT A BOUND ON LENGTHS ANSWERS: some bool; where it is true, P holds. -/
def Within (P : Prop) (w : World) (e : Ending) (w' : World) : Prop := ∃ bo, e = .returned (.bool bo) ∧ w = w' ∧ (bo = true → P)
theorem Within.no {P : Prop} {w : World} : Within P w (.returned (.bool false)) w := ⟨false, rfl, rfl, fun h => by cases h⟩
theorem Within.yes {P : Prop} {w : World} (h : P) : Within P w (.returned (.bool true)) w := ⟨true, rfl, rfl, fun _ => h⟩

/-- n lots, no string of which is longer than 1<<20 -/
def SmallLots (n : Nat) (L : Nat → LotV) : Prop := n ≤ 1048576 ∧ ∀ j, j < n → (L j).a.size + (L j).s.size + (L j).c.size ≤ 1048576

set_option maxRecDepth 100000 in
set_option maxHeartbeats 2000000 in
theorem zz12 (s0 s1 s2 s3 s4 : ByteArray) (a : Option Addr) (n c : Nat) (L : Nat → LotV) (w : World) (hs0 : s0.size ≤ 9223372036854775807) (hs1 : s1.size ≤ 9223372036854775807) (hs2 : s2.size ≤ 9223372036854775807) (hs3 : s3.size ≤ 9223372036854775807) (hs4 : s4.size ≤ 9223372036854775807)
    (hn : n ≤ 9223372036854775807) (hk : ∀ j, (L j).a.size ≤ 9223372036854775807 ∧ (L j).s.size ≤ 9223372036854775807 ∧ (L j).c.size ≤ 9223372036854775807) (hA : LotsAt w w.heap.size a n L) :
    Calls Try.prog 12 #[.string s0, .slice a n c, .string s1, .string s2, .string s3, .string s4] w (Within (SmallLots n L) w) := by
  by_cases h1 : s0.size + n ≤ 1048576
  · have d1 : decide ((1048576 : Int) < (s0.size : Int)) = false := by simp; omega
    have d2 : decide ((1048576 : Int) < (n : Int)) = false := by simp; omega
    have d3 : decide ((1048576 : Int) < (s0.size : Int) + (n : Int)) = false := by simp; omega
    have HK := hide hk
    have HA := hide hA
    clear hk hA
    go_enter Try.func12, Try.ntmps12
    go_wp2
    go_loop [13, 14] (fun z i => ∃ k t : Nat, k ≤ n ∧ i = .int .i64 k ∧ z = .int .i64 t ∧ t ≤ 1048576 ∧ ∀ j, j < k → (L j).a.size + (L j).s.size + (L j).c.size ≤ 1048576) (fun _ i => n - (intOf i).toNat)
    case atStart => exact ⟨0, s0.size + n, by omega, rfl, by go_num, by omega, fun j hj => absurd hj (by omega)⟩
    case round =>
      obtain ⟨k, t, hkn, rfl, rfl, ht, hall⟩ := hrel
      have HALL := hide hall
      clear hall
      by_cases hlt : k < n
      · obtain ⟨b, off, rfl, hb, hc⟩ := unhide HA (by omega)
        obtain ⟨g0, g1, g2, _, _⟩ := hc k hlt
        have gk := unhide HK k
        clear hc
        generalize hKk : L k = x at *
        have HX := hide hKk
        clear hKk
        obtain ⟨xa, xs, xc, xd, xn⟩ := x
        simp only at g0 g1 g2 gk
        obtain ⟨q0, q1, q2⟩ := gk
        by_cases h4 : t + xa.size + xs.size + xc.size ≤ 1048576
        · go_wp2
          go_round
          case rel => exact ⟨k + 1, t + xa.size + xs.size + xc.size, by omega, by go_num, by go_num, h4, fun j hj => by
            by_cases e : j = k
            · rw [e, unhide HX]; simp only; omega
            · exact unhide HALL j (by omega)⟩
          case measure => simp [intOf]; omega
        · go_wp2
          all_goals (go_ret; exact Within.no)
      · obtain rfl : k = n := by omega
        by_cases h5 : t + s1.size + s2.size + s3.size + s4.size ≤ 1048576
        · go_wp2
          go_ret
          exact Within.yes ⟨by omega, unhide HALL⟩
        · go_wp2
          all_goals (go_ret; exact Within.no)
  · go_enter Try.func12, Try.ntmps12
    go_wp2
    all_goals (go_ret; exact Within.no)

set_option maxRecDepth 100000 in
set_option maxHeartbeats 2000000 in
theorem zz8 (s0 s1 s2 s3 : ByteArray) (a : Option Addr) (n c : Nat) (L : Nat → LotV) (w : World) (hs0 : s0.size ≤ 9223372036854775807) (hs1 : s1.size ≤ 9223372036854775807) (hs2 : s2.size ≤ 9223372036854775807) (hs3 : s3.size ≤ 9223372036854775807)
    (hn : n ≤ 9223372036854775807) (hk : ∀ j, (L j).a.size ≤ 9223372036854775807 ∧ (L j).s.size ≤ 9223372036854775807 ∧ (L j).c.size ≤ 9223372036854775807) (hA : LotsAt w w.heap.size a n L) :
    Calls Try.prog 8 #[.string s0, .slice a n c, .string s1, .string s2, .string s3] w (Within (SmallLots n L) w) := by
  by_cases h1 : s0.size + n ≤ 1048576
  · have d1 : decide ((1048576 : Int) < (s0.size : Int)) = false := by simp; omega
    have d2 : decide ((1048576 : Int) < (n : Int)) = false := by simp; omega
    have d3 : decide ((1048576 : Int) < (s0.size : Int) + (n : Int)) = false := by simp; omega
    have HK := hide hk
    have HA := hide hA
    clear hk hA
    go_enter Try.func8, Try.ntmps8
    go_wp2
    go_loop [11, 12] (fun z i => ∃ k t : Nat, k ≤ n ∧ i = .int .i64 k ∧ z = .int .i64 t ∧ t ≤ 1048576 ∧ ∀ j, j < k → (L j).a.size + (L j).s.size + (L j).c.size ≤ 1048576) (fun _ i => n - (intOf i).toNat)
    case atStart => exact ⟨0, s0.size + n, by omega, rfl, by go_num, by omega, fun j hj => absurd hj (by omega)⟩
    case round =>
      obtain ⟨k, t, hkn, rfl, rfl, ht, hall⟩ := hrel
      have HALL := hide hall
      clear hall
      by_cases hlt : k < n
      · obtain ⟨b, off, rfl, hb, hc⟩ := unhide HA (by omega)
        obtain ⟨g0, g1, g2, _, _⟩ := hc k hlt
        have gk := unhide HK k
        clear hc
        generalize hKk : L k = x at *
        have HX := hide hKk
        clear hKk
        obtain ⟨xa, xs, xc, xd, xn⟩ := x
        simp only at g0 g1 g2 gk
        obtain ⟨q0, q1, q2⟩ := gk
        by_cases h4 : t + xa.size + xs.size + xc.size ≤ 1048576
        · go_wp2
          go_round
          case rel => exact ⟨k + 1, t + xa.size + xs.size + xc.size, by omega, by go_num, by go_num, h4, fun j hj => by
            by_cases e : j = k
            · rw [e, unhide HX]; simp only; omega
            · exact unhide HALL j (by omega)⟩
          case measure => simp [intOf]; omega
        · go_wp2
          all_goals (go_ret; exact Within.no)
      · obtain rfl : k = n := by omega
        by_cases h5 : t + s1.size + s2.size + s3.size ≤ 1048576
        · go_wp2
          go_ret
          exact Within.yes ⟨by omega, unhide HALL⟩
        · go_wp2
          all_goals (go_ret; exact Within.no)
  · go_enter Try.func8, Try.ntmps8
    go_wp2
    all_goals (go_ret; exact Within.no)
end Go.Proofs.Qxb6619464a

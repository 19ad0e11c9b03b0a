import Derived.Test.Qxb6623402aSmall
namespace Go.Proofs.Qxb6623402a
open Go.ChangeShapes Go.WideShapes Go.RowKit Go.Maps

def AnyBool (w : World) (e : Ending) (w' : World) : Prop := ∃ bo, e = .returned (.bool bo) ∧ w = w'

set_option maxHeartbeats 2000000 in
theorem bytes (path probe : ByteArray) (r : Option Addr) (n c : Nat) (cut : Int) (f : Nat → ByteArray) (w : World) (hp : path.size ≤ 9223372036854775807) (hq : probe.size ≤ 9223372036854775807) (hn : n ≤ 9223372036854775807) (hf : ∀ j, j < n → (f j).size ≤ 9223372036854775807) (hA : StrsAt w w.heap.size r n f) :
    Calls Try.prog 4 #[.string path, .slice r n c, .int .i64 cut, .string probe] w (AnyBool w) := by
  have HA := hide hA
  have HF := hide hf
  clear hA hf
  by_cases h1 : path.size + n ≤ 1048576
  · have d1 : decide ((1048576 : Int) < (path.size : Int)) = false := by simp; omega
    have d2 : decide ((1048576 : Int) < (n : Int)) = false := by simp; omega
    have d3 : decide ((1048576 : Int) < (path.size : Int) + (n : Int)) = false := by simp; omega
    go_enter Try.func4, Try.ntmps4
    go_wp2
    go_loop [9, 10] (fun z i => ∃ k t : Nat, k ≤ n ∧ i = .int .i64 k ∧ z = .int .i64 t ∧ t ≤ 1048576) (fun _ i => n - (intOf i).toNat)
    case atStart => exact ⟨0, path.size + n, by omega, rfl, by go_num, by omega⟩
    case round =>
      obtain ⟨k, t, hk, rfl, rfl, ht⟩ := hrel
      by_cases hlt : k < n
      · obtain ⟨b, off, rfl, hb, hc⟩ := (unhide HA) (by omega)
        have g0 := hc k hlt
        have q0 := unhide HF k hlt
        clear hc
        generalize f k = x at *
        by_cases h9 : t + x.size ≤ 1048576
        · go_wp2
          go_round
          case rel => exact ⟨k + 1, t + x.size, by omega, by go_num, by go_num, h9⟩
          case measure => simp [intOf]; omega
        · go_wp2
          all_goals (go_ret; exact ⟨_, rfl, rfl⟩)
      · by_cases h9 : t + probe.size ≤ 1048576
        · go_wp2
          all_goals (go_ret; exact ⟨_, rfl, rfl⟩)
        · go_wp2
          all_goals (go_ret; exact ⟨_, rfl, rfl⟩)
  · by_cases h2 : path.size ≤ 1048576
    · have d1 : decide ((1048576 : Int) < (path.size : Int)) = false := by simp; omega
      by_cases h3 : n ≤ 1048576
      · have d2 : decide ((1048576 : Int) < (n : Int)) = false := by simp; omega
        have d3 : decide ((1048576 : Int) < (path.size : Int) + (n : Int)) = true := by simp; omega
        go_enter Try.func4, Try.ntmps4
        go_wp2
        all_goals (go_ret; exact ⟨_, rfl, rfl⟩)
      · have d2 : decide ((1048576 : Int) < (n : Int)) = true := by simp; omega
        go_enter Try.func4, Try.ntmps4
        go_wp2
        all_goals (go_ret; exact ⟨_, rfl, rfl⟩)
    · have d1 : decide ((1048576 : Int) < (path.size : Int)) = true := by simp; omega
      go_enter Try.func4, Try.ntmps4
      go_wp2
      all_goals (go_ret; exact ⟨_, rfl, rfl⟩)
end Go.Proofs.Qxb6623402a

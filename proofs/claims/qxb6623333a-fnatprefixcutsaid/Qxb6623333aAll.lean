import Derived.Test.Qxb6623333aLaw
import Derived.Test.Qxb6623333aOpen
import Derived.Test.Qxb6623333aBytes
namespace Go.Proofs.Qxb6623333a
open Go.ChangeShapes Go.WideShapes Go.RowKit Go.Maps

set_option maxHeartbeats 1000000 in
theorem law_out (r1 r2 : Option Addr) (n1 c1 n2 c2 : Nat) (i k : Int) (E : Nat → EV) (P : Nat → PV) (w : World) (ho : (decide (i < 0) || decide ((n2 : Int) ≤ i)) = true ∨ (decide (k < 0) || decide ((n1 : Int) < k)) = true) (hB : Calls Try.prog 5 #[.slice r1 n1 c1, .slice r2 n2 c2, .int .i64 i, .int .i64 k] w (AnyB w))
    (hS : Calls Try.prog 6 #[.slice r1 n1 c1, .slice r2 n2 c2] w (SizeIn (ElemsSmall n1 E ∧ PathsSmall n2 P) 0 w)) :
    Calls Try.prog 3 #[.slice r1 n1 c1, .slice r2 n2 c2, .int .i64 i, .int .i64 k] w fun e w' => e = .returned (.bool true) ∧ Below w.heap.size w w' := by
  go_enter Try.func3, Try.ntmps3
  go_wp2_with (first | (go_at_call 5; refine hB.mono ?_; rintro e w1 ⟨bo, rfl, rfl⟩))
  · go_ret
    exact ⟨rfl, Below.refl _ _⟩
  clear hB
  go_wp2_with (first | (go_at_call 6; refine hS.mono ?_; rintro e w1 ⟨t, rfl, hb1, ht, hsm⟩; have B1 := hide hb1; clear hb1 hsm))
  all_goals first | (go_ret; exact ⟨rfl, unhide B1⟩) | skip
  exfalso
  simp at ho
  omega

theorem law_all (r1 r2 : Option Addr) (n1 c1 n2 c2 : Nat) (i k : Int) (E : Nat → EV) (P : Nat → PV) (w : World) (hc : n1 ≤ c1) (hf1 : ElemsFit n1 E) (hf2 : PathsFit n2 P) (hA : ElemsAt w w.heap.size r1 n1 E) (hP : PathsAt w w.heap.size r2 n2 P) :
    Calls Try.prog 3 #[.slice r1 n1 c1, .slice r2 n2 c2, .int .i64 i, .int .i64 k] w fun e w' => e = .returned (.bool true) ∧ Below w.heap.size w w' := by
  have hB : Calls Try.prog 5 #[.slice r1 n1 c1, .slice r2 n2 c2, .int .i64 i, .int .i64 k] w (AnyB w) := (bytes r1 r2 n1 c1 n2 c2 i k E P w hf1 hf2 hA hP).mono fun e w' h => h
  have hS := size r1 r2 n1 c1 n2 c2 E P w hf1 hf2 hA hP
  by_cases h : 0 ≤ i ∧ i < n2 ∧ 0 ≤ k ∧ k ≤ n1
  · obtain ⟨a, rfl⟩ := Int.eq_ofNat_of_zero_le h.1
    obtain ⟨b, rfl⟩ := Int.eq_ofNat_of_zero_le h.2.2.1
    exact law r1 r2 n1 c1 n2 c2 a b E P w hc (by omega) (by omega) hA hP hB hS
  · refine law_out r1 r2 n1 c1 n2 c2 i k E P w ?_ hB hS
    simp
    omega
end Go.Proofs.Qxb6623333a

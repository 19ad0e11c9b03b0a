import Derived.Test.Qxb6623402aLaw
namespace Go.Proofs.Qxb6623402a
open Go.ChangeShapes Go.WideShapes Go.RowKit Go.Maps

set_option maxHeartbeats 1000000 in
theorem law_all (path probe : ByteArray) (R : Option Addr) (n c : Nat) (cut : Int) (f : Nat → ByteArray) (w : World) (hp : path.size ≤ maxLen) (hq : probe.size ≤ maxLen) (hn : n ≤ maxLen) (hnc : n ≤ c) (hR : R = none → n = 0) (hf : ∀ j, j < n → (f j).size ≤ maxLen) (hA : StrsAt w w.heap.size R n f) :
    Calls Try.prog 3 #[.string path, .slice R n c, .int .i64 cut, .string probe] w (Done w) := by
  by_cases hs : path.size ≤ 65536 ∧ probe.size ≤ 65536 ∧ n ≤ 4096
  · exact law path probe R n c cut f w hs.1 hs.2.1 hs.2.2 hnc hR hf hA
  have HBy := hide (bytes path probe R n c cut f w hp hq hn hf hA)
  clear hf hA hR hnc hn hp hq
  by_cases h1 : path.size ≤ 65536
  · have d1 : decide ((65536 : Int) < (path.size : Int)) = false := by simp; omega
    by_cases h2 : probe.size ≤ 65536
    · have d2 : decide ((65536 : Int) < (probe.size : Int)) = false := by simp; omega
      have d3 : decide ((4096 : Int) < (n : Int)) = true := by simp; omega
      clear hs
      go_enter Try.func3, Try.ntmps3
      go_wp2_with fail
      refine (unhide HBy).mono ?_
      rintro e w1 ⟨bo, rfl, rfl⟩
      cases bo <;> (go_wp2; go_ret; exact ⟨rfl, Below.refl _ _⟩)
    · have d2 : decide ((65536 : Int) < (probe.size : Int)) = true := by simp; omega
      clear hs
      go_enter Try.func3, Try.ntmps3
      go_wp2_with fail
      refine (unhide HBy).mono ?_
      rintro e w1 ⟨bo, rfl, rfl⟩
      cases bo <;> (go_wp2; go_ret; exact ⟨rfl, Below.refl _ _⟩)
  · have d1 : decide ((65536 : Int) < (path.size : Int)) = true := by simp; omega
    clear hs
    go_enter Try.func3, Try.ntmps3
    go_wp2_with fail
    refine (unhide HBy).mono ?_
    rintro e w1 ⟨bo, rfl, rfl⟩
    cases bo <;> (go_wp2; go_ret; exact ⟨rfl, Below.refl _ _⟩)
end Go.Proofs.Qxb6623402a

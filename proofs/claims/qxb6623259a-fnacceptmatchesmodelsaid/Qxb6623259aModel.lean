import Derived.Test.Qxb6623259aWindow
import Derived.Maps.OwnSet
namespace Go.Proofs.Qxb6623259a
open Go.ChangeShapes Go.WideShapes Go.RowKit Go.Maps

theorem law24 : Keyed Try.prog 24 := int_keyed Try.underlying24
theorem zero4 (w : World) : (zeroValue 4).run Try.prog w = .ok (.bool false) w := by kernel_rfl

/-- has c been seen? -/
def seenD (D : DataW Unit) (c : Nat) : Bool := match D.atKey (.int .u64 (c : Int)) (.lit (.bool false)) with | .lit (.bool b) => b | _ => false

theorem seen_lookup {w : World} {b n : Nat} {D : DataW Unit} (h : w.ownsMap Try.prog 24 (plainElem Try.prog 4) b n D) (c : Nat) (hc : c < 18446744073709551616) :
    (Instr.lookup 27 (.map (some b)) (.int .u64 (c : Int)) false).run Try.prog w = .ok (.bool (seenD D c)) w := by
  have hw : (Lit.int .u64 (c : Int)).wf = true := by simp [Lit.wf, IntKind.bits, IntKind.min, IntKind.max, IntKind.signed]; omega
  obtain ⟨v, ps, hrun, hv⟩ := h.lookup law24 Try.underlying27 (zero4 w) (plainElem_bool Try.underlying4 false) (keyOf_int_mk Try.underlying24 hw)
  rw [hrun]
  have : v = .bool (seenD D c) := by
    unfold seenD
    cases v <;> simp [plainElem, Try.underlying4] at hv
    rename_i x
    rw [← hv.1]
  rw [this]

theorem seen_put {D : DataW Unit} (h : IsMap D) (c : Nat) : seenD (D.put (.int .u64 (c : Int)) (.lit (.bool true))) = addS (seenD D) c := by
  funext x
  unfold addS
  by_cases e : x = c
  · subst e
    unfold seenD
    rw [atKey_put_same h (by simp [WideAt.IsKeyLit])]
    simp
  · have hne : (Lit.int .u64 (x : Int)) ≠ .int .u64 (c : Int) := by
      intro h
      injection h with _ h
      omega
    unfold seenD
    rw [atKey_put_other hne]
    simp [e]
end Go.Proofs.Qxb6623259a

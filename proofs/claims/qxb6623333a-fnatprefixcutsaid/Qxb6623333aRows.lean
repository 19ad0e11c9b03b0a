/-
  No cell of these rows narrows 'for every input' (looked for: loops, veiled, ifaces, maps, wideKeys, modest, calm, conditions, laid).
  DERIVED. THE GIVEN ROWS OF THIS SEAT. 2 by the template 'for every input the law returns true; each argument reads behind the call as it read before'; 0 by the template 'total and deterministic' (their statements: Qxb6623333aTotals.lean).
  GIVEN WITH THE SEED: the statements are not yours to turn. If you find one false, say at which input.
  Laid BY PROGRAM, IN A SANDBOX (cutbox-rows.mjs): the forced cells as the released guide's own fill.sh prints them over the translation 47fc94981a38032c… (all of the seat's roots in one cut). By AI agents, Wed Nov 11 2026. No macro, syntax, notation, axiom, sorry.
-/
import Derived.Test.Qxb6623333aChecked
import GoSem.Claim
import GoSem.ClaimJoined
import GoSem.ClaimMapViews
import Derived.JoinedTies
import Derived.KernelRfl
namespace Go.Proofs.Qxb6623333a
/- THE CELL 'sum', in the pinned program and in every row, IS THE sha256 OF THE DUMP (.gsa) THAT Qxb6623333aProg.lean LOADS. Nothing in Lean hashes anything: it is a label: what it is worth is what the hold of that sum in a sandbox is worth. -/
noncomputable def Try.pinned : Pinned := { name := "qxb6623333a", sum := "47fc94981a38032cfeceadf6cee7a0364cb92433ea240df3fb9b2c97241ab571", checked := Try.checked }
namespace Rows
def none {H : Type} : Left H := { results := [], args := [] }

/-- 'zzlaws_internal_txn_b1.FnAtPrefixCut': WHATEVER THE INPUT: true; the input reads as it did. -/
def fnAtPrefixCutSpec : ChangeSpec := { name := "fnAtPrefixCut", fn := fun _ => fun
  | [d1, d2, d3, d4] => { results := [.lit (.bool true)], args := [d1, d2, d3, d4] }
  | _ => none }
def fnAtPrefixCutRow : OpenClaim := { program := "qxb6623333a", sum := "47fc94981a38032cfeceadf6cee7a0364cb92433ea240df3fb9b2c97241ab571", func := "example.com/commitline/commitline/zzlaws_internal_txn_b1.FnAtPrefixCut", spec := "fnAtPrefixCut", apart := false }
def FnAtPrefixCutSaid : Prop := fnAtPrefixCutRow.holds Try.pinned (OpenSpec.ofChange fnAtPrefixCutSpec)

/-- ITS FALSE NEIGHBOUR: 'it returns false'. Refute it at one input. -/
def fnAtPrefixCutWrong : ChangeSpec := { name := "fnAtPrefixCut", fn := fun _ => fun
  | [d1, d2, d3, d4] => { results := [.lit (.bool false)], args := [d1, d2, d3, d4] }
  | _ => none }
def FnAtPrefixCutWrongFalsely : Prop := fnAtPrefixCutRow.holds Try.pinned (OpenSpec.ofChange fnAtPrefixCutWrong)

/-- 'zzlaws_internal_txn_b1.FnAtOtherPathsIgnored': WHATEVER THE INPUT: true; the input reads as it did. -/
def fnAtOtherPathsIgnoredSpec : ChangeSpec := { name := "fnAtOtherPathsIgnored", fn := fun _ => fun
  | [d1, d2, d3, d4, d5] => { results := [.lit (.bool true)], args := [d1, d2, d3, d4, d5] }
  | _ => none }
def fnAtOtherPathsIgnoredRow : OpenClaim := { program := "qxb6623333a", sum := "47fc94981a38032cfeceadf6cee7a0364cb92433ea240df3fb9b2c97241ab571", func := "example.com/commitline/commitline/zzlaws_internal_txn_b1.FnAtOtherPathsIgnored", spec := "fnAtOtherPathsIgnored", apart := false }
def FnAtOtherPathsIgnoredSaid : Prop := fnAtOtherPathsIgnoredRow.holds Try.pinned (OpenSpec.ofChange fnAtOtherPathsIgnoredSpec)

/-- ITS FALSE NEIGHBOUR: 'it returns false'. Refute it at one input. -/
def fnAtOtherPathsIgnoredWrong : ChangeSpec := { name := "fnAtOtherPathsIgnored", fn := fun _ => fun
  | [d1, d2, d3, d4, d5] => { results := [.lit (.bool false)], args := [d1, d2, d3, d4, d5] }
  | _ => none }
def FnAtOtherPathsIgnoredWrongFalsely : Prop := fnAtOtherPathsIgnoredRow.holds Try.pinned (OpenSpec.ofChange fnAtOtherPathsIgnoredWrong)

end Rows
end Go.Proofs.Qxb6623333a

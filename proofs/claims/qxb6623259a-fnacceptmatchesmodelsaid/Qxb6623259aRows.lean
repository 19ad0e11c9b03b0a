/-
  No cell of these rows narrows 'for every input' (looked for: loops, veiled, ifaces, maps, wideKeys, modest, calm, conditions, laid).
  DERIVED. THE GIVEN ROWS OF THIS SEAT. 1 by the template 'for every input the law returns true; each argument reads behind the call as it read before'; 0 by the template 'total and deterministic' (their statements: Qxb6623259aTotals.lean).
  GIVEN WITH THE SEED: the statements are not yours to turn. If you find one false, say at which input.
  Laid BY PROGRAM, IN A SANDBOX (cutbox-rows.mjs): the forced cells as the released guide's own fill.sh prints them over the translation 86e1ddf494a76c3d… (all of the seat's roots in one cut). By AI agents, Wed Nov 11 2026. No macro, syntax, notation, axiom, sorry.
-/
import Derived.Test.Qxb6623259aChecked
import GoSem.Claim
import GoSem.ClaimJoined
import GoSem.ClaimMapViews
import Derived.JoinedTies
import Derived.KernelRfl
namespace Go.Proofs.Qxb6623259a
/- THE CELL 'sum', in the pinned program and in every row, IS THE sha256 OF THE DUMP (.gsa) THAT Qxb6623259aProg.lean LOADS. Nothing in Lean hashes anything: it is a label: what it is worth is what the hold of that sum in a sandbox is worth. -/
noncomputable def Try.pinned : Pinned := { name := "qxb6623259a", sum := "86e1ddf494a76c3d02123b3199121fde9b1bdfe412b95b59df69e6821f303139", checked := Try.checked }
namespace Rows
def none {H : Type} : Left H := { results := [], args := [] }

/-- 'zzlaws_replay_b1.FnAcceptMatchesModel': WHATEVER THE INPUT: true; the input reads as it did. -/
def fnAcceptMatchesModelSpec : ChangeSpec := { name := "fnAcceptMatchesModel", fn := fun _ => fun
  | [d] => { results := [.lit (.bool true)], args := [d] }
  | _ => none }
def fnAcceptMatchesModelRow : OpenClaim := { program := "qxb6623259a", sum := "86e1ddf494a76c3d02123b3199121fde9b1bdfe412b95b59df69e6821f303139", func := "example.com/knitwire/knitwire/zzlaws_replay_b1.FnAcceptMatchesModel", spec := "fnAcceptMatchesModel", apart := false }
def FnAcceptMatchesModelSaid : Prop := fnAcceptMatchesModelRow.holds Try.pinned (OpenSpec.ofChange fnAcceptMatchesModelSpec)

/-- ITS FALSE NEIGHBOUR: 'it returns false'. Refute it at one input. -/
def fnAcceptMatchesModelWrong : ChangeSpec := { name := "fnAcceptMatchesModel", fn := fun _ => fun
  | [d] => { results := [.lit (.bool false)], args := [d] }
  | _ => none }
def FnAcceptMatchesModelWrongFalsely : Prop := fnAcceptMatchesModelRow.holds Try.pinned (OpenSpec.ofChange fnAcceptMatchesModelWrong)

end Rows
end Go.Proofs.Qxb6623259a

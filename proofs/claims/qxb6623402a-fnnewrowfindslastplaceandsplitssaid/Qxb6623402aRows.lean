/-
  No cell of these rows narrows 'for every input' (looked for: loops, veiled, ifaces, maps, wideKeys, modest, calm, conditions, laid).
  DERIVED. THE GIVEN ROWS OF THIS SEAT. 1 by the template 'for every input the law returns true; each argument reads behind the call as it read before'; 0 by the template 'total and deterministic' (their statements: Qxb6623402aTotals.lean).
  GIVEN WITH THE SEED: the statements are not yours to turn. If you find one false, say at which input.
  Laid BY PROGRAM, IN A SANDBOX (cutbox-rows.mjs): the forced cells as the released guide's own fill.sh prints them over the translation 01c02a5c1dc97373… (all of the seat's roots in one cut). By AI agents, Wed Nov 11 2026. No macro, syntax, notation, axiom, sorry.
-/
import Derived.Test.Qxb6623402aChecked
import GoSem.Claim
import GoSem.ClaimJoined
import GoSem.ClaimMapViews
import Derived.JoinedTies
import Derived.KernelRfl
namespace Go.Proofs.Qxb6623402a
/- THE CELL 'sum', in the pinned program and in every row, IS THE sha256 OF THE DUMP (.gsa) THAT Qxb6623402aProg.lean LOADS. Nothing in Lean hashes anything: it is a label: what it is worth is what the hold of that sum in a sandbox is worth. -/
noncomputable def Try.pinned : Pinned := { name := "qxb6623402a", sum := "01c02a5c1dc97373e83df1567ef82a3c9d157b172d4569f7123f129185ee47b3", checked := Try.checked }
namespace Rows
def none {H : Type} : Left H := { results := [], args := [] }

/-- 'zzlaws_pkg_table_b1.FnNewRowFindsLastPlaceAndSplits': WHATEVER THE INPUT: true; the input reads as it did. -/
def fnNewRowFindsLastPlaceAndSplitsSpec : ChangeSpec := { name := "fnNewRowFindsLastPlaceAndSplits", fn := fun _ => fun
  | [d1, d2, d3, d4] => { results := [.lit (.bool true)], args := [d1, d2, d3, d4] }
  | _ => none }
def fnNewRowFindsLastPlaceAndSplitsRow : OpenClaim := { program := "qxb6623402a", sum := "01c02a5c1dc97373e83df1567ef82a3c9d157b172d4569f7123f129185ee47b3", func := "example.com/pricewright/pricewright/zzlaws_pkg_table_b1.FnNewRowFindsLastPlaceAndSplits", spec := "fnNewRowFindsLastPlaceAndSplits", apart := false }
def FnNewRowFindsLastPlaceAndSplitsSaid : Prop := fnNewRowFindsLastPlaceAndSplitsRow.holds Try.pinned (OpenSpec.ofChange fnNewRowFindsLastPlaceAndSplitsSpec)

/-- ITS FALSE NEIGHBOUR: 'it returns false'. Refute it at one input. -/
def fnNewRowFindsLastPlaceAndSplitsWrong : ChangeSpec := { name := "fnNewRowFindsLastPlaceAndSplits", fn := fun _ => fun
  | [d1, d2, d3, d4] => { results := [.lit (.bool false)], args := [d1, d2, d3, d4] }
  | _ => none }
def FnNewRowFindsLastPlaceAndSplitsWrongFalsely : Prop := fnNewRowFindsLastPlaceAndSplitsRow.holds Try.pinned (OpenSpec.ofChange fnNewRowFindsLastPlaceAndSplitsWrong)

end Rows
end Go.Proofs.Qxb6623402a

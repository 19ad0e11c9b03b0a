/-
  No cell of these rows narrows 'for every input' (looked for: loops, veiled, ifaces, maps, wideKeys, modest, calm, conditions, laid).
  DERIVED. THE GIVEN ROWS OF THIS SEAT. 5 by the template 'for every input the law returns true; each argument reads behind the call as it read before'; 0 by the template 'total and deterministic' (their statements: Qxb6619464aTotals.lean).
  GIVEN WITH THE SEED: the statements are not yours to turn. If you find one false, say at which input.
  Laid BY PROGRAM, IN A SANDBOX (cutbox-rows.mjs): the forced cells as the released guide's own fill.sh prints them over the translation 840f2341382f8c75… (all of the seat's roots in one cut). By AI agents, Wed Nov 11 2026. No macro, syntax, notation, axiom, sorry.
-/
import Derived.Test.Qxb6619464aChecked
import GoSem.Claim
import GoSem.ClaimJoined
import GoSem.ClaimMapViews
import Derived.JoinedTies
import Derived.KernelRfl
namespace Go.Proofs.Qxb6619464a
/- THE CELL 'sum', in the pinned program and in every row, IS THE sha256 OF THE DUMP (.gsa) THAT Qxb6619464aProg.lean LOADS. Nothing in Lean hashes anything: it is a label: what it is worth is what the hold of that sum in a sandbox is worth. -/
noncomputable def Try.pinned : Pinned := { name := "qxb6619464a", sum := "840f2341382f8c755bee973e18d16b629eb47d02cb447849a91ddb68c526ba75", checked := Try.checked }
namespace Rows
def none {H : Type} : Left H := { results := [], args := [] }

/-- 'zzlaws_register_b1.FnLotsOfIsFirstRunOfHolding': WHATEVER THE INPUT: true; the input reads as it did. -/
def fnLotsOfIsFirstRunOfHoldingSpec : ChangeSpec := { name := "fnLotsOfIsFirstRunOfHolding", fn := fun _ => fun
  | [d1, d2, d3, d4, d5] => { results := [.lit (.bool true)], args := [d1, d2, d3, d4, d5] }
  | _ => none }
def fnLotsOfIsFirstRunOfHoldingRow : OpenClaim := { program := "qxb6619464a", sum := "840f2341382f8c755bee973e18d16b629eb47d02cb447849a91ddb68c526ba75", func := "example.com/zhaomu/zhaomu/zzlaws_register_b1.FnLotsOfIsFirstRunOfHolding", spec := "fnLotsOfIsFirstRunOfHolding", apart := false }
def FnLotsOfIsFirstRunOfHoldingSaid : Prop := fnLotsOfIsFirstRunOfHoldingRow.holds Try.pinned (OpenSpec.ofChange fnLotsOfIsFirstRunOfHoldingSpec)

/-- ITS FALSE NEIGHBOUR: 'it returns false'. Refute it at one input. -/
def fnLotsOfIsFirstRunOfHoldingWrong : ChangeSpec := { name := "fnLotsOfIsFirstRunOfHolding", fn := fun _ => fun
  | [d1, d2, d3, d4, d5] => { results := [.lit (.bool false)], args := [d1, d2, d3, d4, d5] }
  | _ => none }
def FnLotsOfIsFirstRunOfHoldingWrongFalsely : Prop := fnLotsOfIsFirstRunOfHoldingRow.holds Try.pinned (OpenSpec.ofChange fnLotsOfIsFirstRunOfHoldingWrong)

/-- 'zzlaws_register_b1.FnLotsOfIsBlindToAccounts': WHATEVER THE INPUT: true; the input reads as it did. -/
def fnLotsOfIsBlindToAccountsSpec : ChangeSpec := { name := "fnLotsOfIsBlindToAccounts", fn := fun _ => fun
  | [d1, d2, d3, d4, d5, d6] => { results := [.lit (.bool true)], args := [d1, d2, d3, d4, d5, d6] }
  | _ => none }
def fnLotsOfIsBlindToAccountsRow : OpenClaim := { program := "qxb6619464a", sum := "840f2341382f8c755bee973e18d16b629eb47d02cb447849a91ddb68c526ba75", func := "example.com/zhaomu/zhaomu/zzlaws_register_b1.FnLotsOfIsBlindToAccounts", spec := "fnLotsOfIsBlindToAccounts", apart := false }
def FnLotsOfIsBlindToAccountsSaid : Prop := fnLotsOfIsBlindToAccountsRow.holds Try.pinned (OpenSpec.ofChange fnLotsOfIsBlindToAccountsSpec)

/-- ITS FALSE NEIGHBOUR: 'it returns false'. Refute it at one input. -/
def fnLotsOfIsBlindToAccountsWrong : ChangeSpec := { name := "fnLotsOfIsBlindToAccounts", fn := fun _ => fun
  | [d1, d2, d3, d4, d5, d6] => { results := [.lit (.bool false)], args := [d1, d2, d3, d4, d5, d6] }
  | _ => none }
def FnLotsOfIsBlindToAccountsWrongFalsely : Prop := fnLotsOfIsBlindToAccountsRow.holds Try.pinned (OpenSpec.ofChange fnLotsOfIsBlindToAccountsWrong)

/-- 'zzlaws_register_b1.FnValidTracksEveryPut': WHATEVER THE INPUT: true; the input reads as it did. -/
def fnValidTracksEveryPutSpec : ChangeSpec := { name := "fnValidTracksEveryPut", fn := fun _ => fun
  | [d1, d2] => { results := [.lit (.bool true)], args := [d1, d2] }
  | _ => none }
def fnValidTracksEveryPutRow : OpenClaim := { program := "qxb6619464a", sum := "840f2341382f8c755bee973e18d16b629eb47d02cb447849a91ddb68c526ba75", func := "example.com/zhaomu/zhaomu/zzlaws_register_b1.FnValidTracksEveryPut", spec := "fnValidTracksEveryPut", apart := false }
def FnValidTracksEveryPutSaid : Prop := fnValidTracksEveryPutRow.holds Try.pinned (OpenSpec.ofChange fnValidTracksEveryPutSpec)

/-- ITS FALSE NEIGHBOUR: 'it returns false'. Refute it at one input. -/
def fnValidTracksEveryPutWrong : ChangeSpec := { name := "fnValidTracksEveryPut", fn := fun _ => fun
  | [d1, d2] => { results := [.lit (.bool false)], args := [d1, d2] }
  | _ => none }
def FnValidTracksEveryPutWrongFalsely : Prop := fnValidTracksEveryPutRow.holds Try.pinned (OpenSpec.ofChange fnValidTracksEveryPutWrong)

/-- 'zzlaws_register_b1.FnDaysInOrderPostingOneMoreDay': WHATEVER THE INPUT: true; the input reads as it did. -/
def fnDaysInOrderPostingOneMoreDaySpec : ChangeSpec := { name := "fnDaysInOrderPostingOneMoreDay", fn := fun _ => fun
  | [d1, d2] => { results := [.lit (.bool true)], args := [d1, d2] }
  | _ => none }
def fnDaysInOrderPostingOneMoreDayRow : OpenClaim := { program := "qxb6619464a", sum := "840f2341382f8c755bee973e18d16b629eb47d02cb447849a91ddb68c526ba75", func := "example.com/zhaomu/zhaomu/zzlaws_register_b1.FnDaysInOrderPostingOneMoreDay", spec := "fnDaysInOrderPostingOneMoreDay", apart := false }
def FnDaysInOrderPostingOneMoreDaySaid : Prop := fnDaysInOrderPostingOneMoreDayRow.holds Try.pinned (OpenSpec.ofChange fnDaysInOrderPostingOneMoreDaySpec)

/-- ITS FALSE NEIGHBOUR: 'it returns false'. Refute it at one input. -/
def fnDaysInOrderPostingOneMoreDayWrong : ChangeSpec := { name := "fnDaysInOrderPostingOneMoreDay", fn := fun _ => fun
  | [d1, d2] => { results := [.lit (.bool false)], args := [d1, d2] }
  | _ => none }
def FnDaysInOrderPostingOneMoreDayWrongFalsely : Prop := fnDaysInOrderPostingOneMoreDayRow.holds Try.pinned (OpenSpec.ofChange fnDaysInOrderPostingOneMoreDayWrong)

/-- 'zzlaws_register_b1.FnDaysInOrderSplitsAtAnyCut': WHATEVER THE INPUT: true; the input reads as it did. -/
def fnDaysInOrderSplitsAtAnyCutSpec : ChangeSpec := { name := "fnDaysInOrderSplitsAtAnyCut", fn := fun _ => fun
  | [d1, d2, d3] => { results := [.lit (.bool true)], args := [d1, d2, d3] }
  | _ => none }
def fnDaysInOrderSplitsAtAnyCutRow : OpenClaim := { program := "qxb6619464a", sum := "840f2341382f8c755bee973e18d16b629eb47d02cb447849a91ddb68c526ba75", func := "example.com/zhaomu/zhaomu/zzlaws_register_b1.FnDaysInOrderSplitsAtAnyCut", spec := "fnDaysInOrderSplitsAtAnyCut", apart := false }
def FnDaysInOrderSplitsAtAnyCutSaid : Prop := fnDaysInOrderSplitsAtAnyCutRow.holds Try.pinned (OpenSpec.ofChange fnDaysInOrderSplitsAtAnyCutSpec)

/-- ITS FALSE NEIGHBOUR: 'it returns false'. Refute it at one input. -/
def fnDaysInOrderSplitsAtAnyCutWrong : ChangeSpec := { name := "fnDaysInOrderSplitsAtAnyCut", fn := fun _ => fun
  | [d1, d2, d3] => { results := [.lit (.bool false)], args := [d1, d2, d3] }
  | _ => none }
def FnDaysInOrderSplitsAtAnyCutWrongFalsely : Prop := fnDaysInOrderSplitsAtAnyCutRow.holds Try.pinned (OpenSpec.ofChange fnDaysInOrderSplitsAtAnyCutWrong)

end Rows
end Go.Proofs.Qxb6619464a

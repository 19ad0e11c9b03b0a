/-
  THE PROOF OF 'Rows.FnDaysInOrderSplitsAtAnyCutSaid': the frame (after the guide's shell); the walk out of the texts that it imports.
-/
import Derived.Test.Qxb6619464aRows
import Derived.WalkKit
import Derived.ProofKit
import Derived.OpenShut
import Derived.ShutString
import Derived.ChangeOld
import Derived.Below
import Derived.Deep.Slices
import Derived.Test.Qxb6619464aSplits
namespace Go.Proofs.Qxb6619464a.fnDaysInOrderSplitsAtAnyCut
open Go.ChangeShapes Go.WideShapes Go.ChangeAt Go.RowKit
open Go.ChangeMaps (open_string shut_string)
set_option linter.unusedVariables false

theorem own : ownKnob Try.prog.godebug = none := by kernel_rfl
theorem laidOut : laidOutB Try.prog = true := by kernel_rfl
theorem cells21 : Try.prog.cellsOf 21 = 1 := by kernel_rfl

set_option maxRecDepth 100000 in
theorem lifted (os : Os) (started : os.Started) (H : Type) (enc : TypeId × Value → H) :
    ReturnsInHanded {} Try.checked os 7 .any (Rows.fnDaysInOrderSplitsAtAnyCutSpec.pre6 enc Try.prog Try.f7 Rows.fnDaysInOrderSplitsAtAnyCutRow.domain false) (Rows.fnDaysInOrderSplitsAtAnyCutSpec.post enc Try.prog Try.f7 false true false false) := by
  refine returnsInHanded_of_change (C := Try.checked) own started (by kernel_rfl) Try.func7
    (ChangeSpec.witness6 (enc := enc) (C := Try.checked) false ⟨#[], #[.slice none 0 0, .pointer none, .int .i64 0], []⟩ 8 (by kernel_rfl) (by kernel_rfl) (by kernel_rfl) (by kernel_rfl)) ?_
  intro W base args ds gs before hval0 hW hcnd _
  have hval : ∀ (j : Nat) t v, Try.f7.params[j]? = some t → args[j]? = some v → Value.okWide Try.prog W .any base t v := hval0
  have hW' := hW
  obtain ⟨p, q, hA0, hV, rfl, hfz, hnd⟩ := hW
  have hA : DataW.TrodAll enc Try.prog W 0 (fun _ => true) true Try.f7.params.toList args.toList ds p := hA0
  rw [Try.params7] at hA hval
  obtain ⟨v0, vs0, d0, ds0, p0, q0, hargs, rfl, rfl, h0, r0⟩ := trodAll_cons hA
  obtain ⟨v1, vs1, d1, ds1, p1, q1, rfl, rfl, rfl, h1, r1⟩ := trodAll_cons r0
  obtain ⟨v2, vs2, d2, ds2, p2, q2, rfl, rfl, rfl, h2, r2⟩ := trodAll_cons r1
  obtain ⟨rfl, rfl, rfl⟩ := trodAll_nil r2
  obtain rfl : args = #[v0, v1, v2] := by cases args; simp_all
  obtain ⟨rfl, rfl⟩ := trodVars_none hV
  have k0 := h0
  have lt0 : ∀ x ∈ p0, x.block < W.heap.size := by obtain ⟨m, hm⟩ := k0; exact DataW.trod_lt m _ _ _ hm
  have k1 := h1
  have lt1 : ∀ x ∈ p1, x.block < W.heap.size := by obtain ⟨m, hm⟩ := k1; exact DataW.trod_lt m _ _ _ hm
  have k2 := h2
  have lt2 : ∀ x ∈ p2, x.block < W.heap.size := by obtain ⟨m, hm⟩ := k2; exact DataW.trod_lt m _ _ _ hm
  suffices hwalk : Calls Try.prog 7 #[v0, v1, v2] W fun e W' => e = .returned (.bool true) ∧ Below W.heap.size W W' by
    refine hwalk.mono fun e W' ⟨he, bel⟩ => ?_
    subst he
    exact ⟨_, rfl, _, _, _, [], _, [], hW', trodAll_mk1 (shut_bool Try.underlying4 _), (trodAll_cons_mk (Below.trod laidOut (by kernel_rfl) (of_decide_eq_true (by kernel_rfl)) k0 bel lt0) (trodAll_cons_mk (Below.trod laidOut (by kernel_rfl) (of_decide_eq_true (by kernel_rfl)) k1 bel lt1) (trodAll_cons_mk (Below.trod laidOut (by kernel_rfl) (of_decide_eq_true (by kernel_rfl)) k2 bel lt2) trodAll_mk0))), rfl, bel.frame _, fun h => by cases h⟩
  clear hA0 hval0 hW' hcnd hfz hnd hA hargs
  obtain ⟨a0, len0, cap0, rfl⟩ := okWide_slice Try.underlying52 (hval 0 52 v0 rfl rfl)
  obtain ⟨a2, rfl, rfl, rfl, w2⟩ := open_int Try.underlying3 (hval 2 3 v2 rfl rfl) h2
  have hp := open_ptr_int Try.underlying57 Try.underlying21 cells21 (hval 1 57 v1 rfl rfl) h1
  have hlast : v1 = .pointer none ∨ ∃ lb lo L, v1 = .pointer (some ⟨lb, lo, none⟩) ∧ lb < W.heap.size ∧ W.cell? ⟨lb, lo, none⟩ = some (.int .i32 L) := by
    rcases hp with ⟨h, _, _⟩ | ⟨b, off, n, h, _, _, hc, _⟩
    · exact .inl h
    · exact .inr ⟨b, off, n, h, World.block_lt_of_cell? W _ hc, hc⟩
  obtain ⟨fuel, hf⟩ := h0
  clear hp hval h1 h2 k0 k1 k2 lt0 lt1 lt2 w2
  rcases open_ints Try.underlying52 Try.underlying21 cells21 hf with ⟨hcs, _⟩ | ⟨x, l, c, zs, hcs, _, hl, hm, hz, _, hcell, hwz⟩
  · simp [Value.cells] at hcs
    obtain ⟨rfl, rfl, rfl⟩ := hcs
    refine (splits_out none 0 0 v1 a2 W (by omega) (by omega)).mono ?_
    rintro e w' ⟨rfl, rfl⟩
    exact ⟨rfl, Below.refl _ _⟩
  simp [Value.cells] at hcs
  obtain ⟨rfl, rfl, rfl⟩ := hcs
  unfold maxLen at hm
  by_cases hs : 65536 < len0
  · refine (splits_long (some x) len0 cap0 v1 a2 W hs (by omega)).mono ?_
    rintro e w' ⟨rfl, rfl⟩
    exact ⟨rfl, Below.refl _ _⟩
  by_cases hk : a2 < 1 ∨ (len0 : Int) ≤ a2
  · refine (splits_out (some x) len0 cap0 v1 a2 W (by omega) hk).mono ?_
    rintro e w' ⟨rfl, rfl⟩
    exact ⟨rfl, Below.refl _ _⟩
  obtain ⟨pp, hpp⟩ : ∃ pp : Nat, a2 = (pp : Int) + 1 := ⟨(a2 - 1).toNat, by omega⟩
  obtain ⟨m, rfl⟩ : ∃ m, len0 = m + 1 := ⟨len0 - 1, by omega⟩
  subst hpp
  have hzl : m + 1 ≤ zs.length := by
    simp at hz
    omega
  obtain ⟨b, off, spot⟩ := x
  have h0 := hcell 0 (by omega)
  have hspot : spot = none := by simpa [Addr.add] using World.cell?_spot h0
  subst hspot
  have hb : b < W.heap.size := by simpa [Addr.add] using World.block_lt_of_cell? W _ h0
  have hcc : ∀ j, j < m + 1 → W.cell? ⟨b, off + j, none⟩ = some (.int .i32 (zs.getD j 0)) := fun j hj => by rw [← add_plain]; exact hcell j (by omega)
  rcases hlast with rfl | ⟨lb, lo, L, rfl, hlb, hL⟩
  · exact splits_nil b off cap0 pp m (fun j => zs.getD j 0) W (by omega) (by omega) hb hcc
  · exact splits_some b off cap0 pp m lb lo (fun j => zs.getD j 0) L W (by omega) (by omega) hb hlb hL hcc

theorem over : Rows.fnDaysInOrderSplitsAtAnyCutRow.holds Try.pinned (OpenSpec.ofChange Rows.fnDaysInOrderSplitsAtAnyCutSpec) :=
  OpenClaim.holds_of_wide 7 Try.f7 rfl rfl rfl rfl rfl rfl rfl ⟨rfl, rfl, rfl, rfl, rfl⟩ rfl rfl rfl rfl rfl (by kernel_rfl) Try.func7 (by kernel_rfl)
    (of_decide_eq_true (by kernel_rfl)) (by unfold Func.isWrapper; first | (rw [if_pos (by decide +kernel)]; kernel_rfl) | (rw [if_neg (by decide +kernel)]; exact ⟨rfl, rfl⟩))
    (fun os started H enc _ => lifted os started H enc)

/-- THE STATEMENT -/
theorem proved : Rows.FnDaysInOrderSplitsAtAnyCutSaid := over
end Go.Proofs.Qxb6619464a.fnDaysInOrderSplitsAtAnyCut

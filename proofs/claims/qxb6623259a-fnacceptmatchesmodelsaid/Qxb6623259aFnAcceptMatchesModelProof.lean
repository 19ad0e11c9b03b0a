/-
  THE PROOF OF 'Rows.FnAcceptMatchesModelSaid': the frame (after the guide's shell); the walk out of the texts that it imports.
-/
import Derived.Test.Qxb6623259aRows
import Derived.WalkKit
import Derived.ProofKit
import Derived.OpenShut
import Derived.ShutString
import Derived.ChangeOld
import Derived.Below
import Derived.Deep.Slices
import Derived.Test.Qxb6623259aLaw
namespace Go.Proofs.Qxb6623259a.fnAcceptMatchesModel
open Go.ChangeShapes Go.WideShapes Go.ChangeAt Go.RowKit
open Go.ChangeMaps (open_string shut_string)
set_option linter.unusedVariables false

theorem own : ownKnob Try.prog.godebug = none := by kernel_rfl
theorem laidOut : laidOutB Try.prog = true := by kernel_rfl
theorem cells24 : Try.prog.cellsOf 24 = 1 := by kernel_rfl
theorem u64_bounds {n : Int} (h : (Lit.int .u64 n).wf = true) : 0 ≤ n ∧ n < 18446744073709551616 := by
  simp [Lit.wf, IntKind.bits, IntKind.min, IntKind.max, IntKind.signed] at h
  omega

set_option maxRecDepth 100000 in
theorem lifted (os : Os) (started : os.Started) (H : Type) (enc : TypeId × Value → H) :
    ReturnsInHanded {} Try.checked os 3 .any (Rows.fnAcceptMatchesModelSpec.pre6 enc Try.prog Try.f3 Rows.fnAcceptMatchesModelRow.domain false) (Rows.fnAcceptMatchesModelSpec.post enc Try.prog Try.f3 false true false false) := by
  refine returnsInHanded_of_change (C := Try.checked) own started (by kernel_rfl) Try.func3
    (ChangeSpec.witness6 (enc := enc) (C := Try.checked) false ⟨#[], #[.slice none 0 0], []⟩ 8 (by kernel_rfl) (by kernel_rfl) (by kernel_rfl) (by kernel_rfl)) ?_
  intro W base args ds gs before hval0 hW hcnd _
  have hval : ∀ (j : Nat) t v, Try.f3.params[j]? = some t → args[j]? = some v → Value.okWide Try.prog W .any base t v := hval0
  have hW' := hW
  obtain ⟨p, q, hA0, hV, rfl, hfz, hnd⟩ := hW
  have hA : DataW.TrodAll enc Try.prog W 0 (fun _ => true) true Try.f3.params.toList args.toList ds p := hA0
  rw [Try.params3] at hA hval
  obtain ⟨v0, vs0, d0, ds0, p0, q0, hargs, rfl, rfl, h0, r0⟩ := trodAll_cons hA
  obtain ⟨rfl, rfl, rfl⟩ := trodAll_nil r0
  obtain rfl : args = #[v0] := by cases args; simp_all
  obtain ⟨rfl, rfl⟩ := trodVars_none hV
  have k0 := h0
  have lt0 : ∀ x ∈ p0, x.block < W.heap.size := by obtain ⟨m, hm⟩ := k0; exact DataW.trod_lt m _ _ _ hm
  suffices hwalk : Calls Try.prog 3 #[v0] W fun e W' => e = .returned (.bool true) ∧ Below W.heap.size W W' by
    refine hwalk.mono fun e W' ⟨he, bel⟩ => ?_
    subst he
    exact ⟨_, rfl, _, _, _, [], _, [], hW', trodAll_mk1 (shut_bool Try.underlying4 _), (trodAll_cons_mk (Below.trod laidOut (by kernel_rfl) (of_decide_eq_true (by kernel_rfl)) k0 bel lt0) trodAll_mk0), rfl, bel.frame _, fun h => by cases h⟩
  clear hA0 hval0 hW' hcnd hfz hnd hA hargs
  obtain ⟨a0, len0, cap0, rfl⟩ := okWide_slice Try.underlying22 (hval 0 22 v0 rfl rfl)
  obtain ⟨fuel, hf⟩ := h0
  clear hval k0 lt0
  rcases open_ints Try.underlying22 Try.underlying24 cells24 hf with ⟨hcs, _⟩ | ⟨x, l, c, zs, hcs, _, hl, hm, hz, _, hcell, hwz⟩
  · simp [Value.cells] at hcs
    obtain ⟨rfl, rfl, rfl⟩ := hcs
    exact law none 0 0 (fun _ => 0) W (by omega) (fun _ => by omega) (fun h => absurd h (by omega))
  simp [Value.cells] at hcs
  obtain ⟨rfl, rfl, rfl⟩ := hcs
  unfold maxLen at hm
  by_cases hs : 4096 < len0
  · refine (long (some x) len0 cap0 W hs (by omega)).mono ?_
    rintro e w' ⟨rfl, rfl⟩
    exact ⟨rfl, Below.refl _ _⟩
  have hzl : len0 ≤ zs.length := by
    simp at hz
    omega
  have hb : ∀ j, 0 ≤ zs.getD j 0 ∧ zs.getD j 0 < 18446744073709551616 := by
    intro j
    by_cases hj : j < zs.length
    · have : zs.getD j 0 = zs[j] := by simp [hj]
      rw [this]
      exact u64_bounds (hwz _ (List.getElem_mem hj))
    · have : zs.getD j 0 = 0 := by simp [hj]
      rw [this]
      omega
  refine law (some x) len0 cap0 (fun j => (zs.getD j 0).toNat) W (by omega) (fun j => by have := hb j; omega) (fun hp => ?_)
  obtain ⟨b, off, spot⟩ := x
  have h0 := hcell 0 (by omega)
  have hspot : spot = none := by simpa [Addr.add] using World.cell?_spot h0
  subst hspot
  refine ⟨b, off, rfl, by simpa [Addr.add] using World.block_lt_of_cell? W _ h0, fun j hj => ?_⟩
  rw [← add_plain, hcell j (by omega), Int.toNat_of_nonneg (hb j).1]

theorem over : Rows.fnAcceptMatchesModelRow.holds Try.pinned (OpenSpec.ofChange Rows.fnAcceptMatchesModelSpec) :=
  OpenClaim.holds_of_wide 3 Try.f3 rfl rfl rfl rfl rfl rfl rfl ⟨rfl, rfl, rfl, rfl, rfl⟩ rfl rfl rfl rfl rfl (by kernel_rfl) Try.func3 (by kernel_rfl)
    (of_decide_eq_true (by kernel_rfl)) (by unfold Func.isWrapper; first | (rw [if_pos (by decide +kernel)]; kernel_rfl) | (rw [if_neg (by decide +kernel)]; exact ⟨rfl, rfl⟩))
    (fun os started H enc _ => lifted os started H enc)

/-- THE STATEMENT -/
theorem proved : Rows.FnAcceptMatchesModelSaid := over
end Go.Proofs.Qxb6623259a.fnAcceptMatchesModel

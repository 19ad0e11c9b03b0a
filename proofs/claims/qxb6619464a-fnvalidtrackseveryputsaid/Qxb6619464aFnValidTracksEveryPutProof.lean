/-
  THE PROOF OF 'Rows.FnValidTracksEveryPutSaid': the frame (after the guide's shell); the walk out of the texts that it imports.
-/
import Derived.Test.Qxb6619464aRows
import Derived.WalkKit
import Derived.ProofKit
import Derived.OpenShut
import Derived.ShutString
import Derived.ChangeOld
import Derived.Below
import Derived.Deep.Slices
import Derived.Test.Qxb6619464aValidLaw
namespace Go.Proofs.Qxb6619464a.fnValidTracksEveryPut
open Go.ChangeShapes Go.WideShapes Go.ChangeAt Go.RowKit
open Go.ChangeMaps (open_string shut_string)
set_option linter.unusedVariables false

theorem own : ownKnob Try.prog.godebug = none := by kernel_rfl
theorem laidOut : laidOutB Try.prog = true := by kernel_rfl
theorem cells47 : Try.prog.cellsOf 47 = 2 := by kernel_rfl
theorem cells9 : Try.prog.cellsOf 9 = 1 := by kernel_rfl
theorem cells2 : Try.prog.cellsOf 2 = 1 := by kernel_rfl

/-- A SLICE OF PUTS, OPENED. -/
theorem open_puts {H : Type} {enc : TypeId × Value → H} {W : World} {fuel : Nat} {a0 : Option Addr} {len cap : Nat} {x : DataW H × List MemPlace}
    (hf : DataW.trod enc Try.prog W 0 (fun _ => true) true fuel 44 [.slice a0 len cap] = some x) :
    ∃ K V, PutsAt W a0 len K V ∧ (∀ j, (K j).size ≤ maxLen) ∧ (∀ j, (Lit.int .i64 (V j)).wf = true) ∧ len ≤ maxLen := by
  rcases Go.Deep.open_slice Try.underlying44 hf with ⟨hcs, _⟩ | ⟨a, l, c, m, n, D, Pl, hcs, _, hl, hm, hmm, _, hx⟩
  · simp at hcs
    obtain ⟨rfl, rfl, rfl⟩ := hcs
    exact ⟨fun _ => ByteArray.empty, fun _ => 0, fun h => absurd h (by omega), fun _ => (by decide : ByteArray.empty.size ≤ maxLen), fun _ => (by decide : (Lit.int .i64 0).wf = true), Nat.zero_le _⟩
  · simp at hcs
    obtain ⟨rfl, rfl, rfl⟩ := hcs
    simp only [if_true] at hmm
    subst hmm
    rw [cells47] at hx
    have key : ∀ i, ∃ y : ByteArray × Int, (i < len → W.cell? (a.add (i * 2)) = some (.string y.1) ∧ W.cell? (a.add (i * 2 + 1)) = some (.int .i64 y.2)) ∧ y.1.size ≤ maxLen ∧ (Lit.int .i64 y.2).wf = true := by
      intro i
      by_cases hi : i < len
      · obtain ⟨cs', h1, h2⟩ := hx i (by omega)
        obtain ⟨_, hlen, hc⟩ := World.cells?_some h1
        match cs', hlen with
        | [u0, u1], _ =>
          obtain ⟨y0, y1, n', _, _, t0, t1⟩ := trod_struct2 Try.underlying47 h2
          rw [cells9] at t0
          rw [cells2] at t1
          obtain ⟨s, e0, _, hs⟩ := DataW.trod_string Try.underlying9 t0
          obtain ⟨v, e1, _, hv⟩ := DataW.trod_int Try.underlying2 t1
          simp at e0 e1
          subst e0 e1
          refine ⟨(s, v), fun _ => ⟨?_, ?_⟩, hs, hv⟩
          · have := hc 0 (by omega)
            simpa [Addr.add] using this
          · have := hc 1 (by omega)
            simpa [Go.Deep.add_add] using this
      · exact ⟨(ByteArray.empty, 0), fun h => absurd h hi, by decide, by decide⟩
    obtain ⟨f, hfn⟩ := Classical.skolem.1 key
    refine ⟨fun j => (f j).1, fun j => (f j).2, fun hp => ?_, fun j => (hfn j).2.1, fun j => (hfn j).2.2, by omega⟩
    obtain ⟨b, off, spot⟩ := a
    have h0 := ((hfn 0).1 hp).1
    have hspot : spot = none := by simpa [Addr.add] using World.cell?_spot h0
    subst hspot
    refine ⟨b, off, rfl, by simpa [Addr.add] using World.block_lt_of_cell? W _ h0, fun j hj => ?_⟩
    have h := (hfn j).1 hj
    rw [add_plain, add_plain] at h
    exact h

set_option maxRecDepth 100000 in
theorem lifted (os : Os) (started : os.Started) (H : Type) (enc : TypeId × Value → H) :
    ReturnsInHanded {} Try.checked os 5 .any (Rows.fnValidTracksEveryPutSpec.pre6 enc Try.prog Try.f5 Rows.fnValidTracksEveryPutRow.domain false) (Rows.fnValidTracksEveryPutSpec.post enc Try.prog Try.f5 false true false false) := by
  refine returnsInHanded_of_change (C := Try.checked) own started (by kernel_rfl) Try.func5
    (ChangeSpec.witness6 (enc := enc) (C := Try.checked) false ⟨#[], #[.string ByteArray.empty, .slice none 0 0], []⟩ 8 (by kernel_rfl) (by kernel_rfl) (by kernel_rfl) (by kernel_rfl)) ?_
  intro W base args ds gs before hval0 hW hcnd _
  have hval : ∀ (j : Nat) t v, Try.f5.params[j]? = some t → args[j]? = some v → Value.okWide Try.prog W .any base t v := hval0
  have hW' := hW
  obtain ⟨p, q, hA0, hV, rfl, hfz, hnd⟩ := hW
  have hA : DataW.TrodAll enc Try.prog W 0 (fun _ => true) true Try.f5.params.toList args.toList ds p := hA0
  rw [Try.params5] at hA hval
  obtain ⟨v0, vs0, d0, ds0, p0, q0, hargs, rfl, rfl, h0, r0⟩ := trodAll_cons hA
  obtain ⟨v1, vs1, d1, ds1, p1, q1, rfl, rfl, rfl, h1, r1⟩ := trodAll_cons r0
  obtain ⟨rfl, rfl, rfl⟩ := trodAll_nil r1
  obtain rfl : args = #[v0, v1] := by cases args; simp_all
  obtain ⟨rfl, rfl⟩ := trodVars_none hV
  have k0 := h0
  have lt0 : ∀ x ∈ p0, x.block < W.heap.size := by obtain ⟨m, hm⟩ := k0; exact DataW.trod_lt m _ _ _ hm
  have k1 := h1
  have lt1 : ∀ x ∈ p1, x.block < W.heap.size := by obtain ⟨m, hm⟩ := k1; exact DataW.trod_lt m _ _ _ hm
  suffices hwalk : Calls Try.prog 5 #[v0, v1] W fun e W' => e = .returned (.bool true) ∧ Below W.heap.size W W' by
    refine hwalk.mono fun e W' ⟨he, bel⟩ => ?_
    subst he
    exact ⟨_, rfl, _, _, _, [], _, [], hW', trodAll_mk1 (shut_bool Try.underlying4 _), (trodAll_cons_mk (Below.trod laidOut (by kernel_rfl) (of_decide_eq_true (by kernel_rfl)) k0 bel lt0) (trodAll_cons_mk (Below.trod laidOut (by kernel_rfl) (of_decide_eq_true (by kernel_rfl)) k1 bel lt1) trodAll_mk0)), rfl, bel.frame _, fun h => by cases h⟩
  clear hA0 hval0 hW' hcnd hfz hnd hA hargs
  obtain ⟨s, rfl, rfl, rfl, hs⟩ := open_string Try.underlying9 (hval 0 9 v0 rfl rfl) h0
  obtain ⟨a1, len1, cap1, rfl⟩ := okWide_slice Try.underlying44 (hval 1 44 v1 rfl rfl)
  obtain ⟨fuel, hf⟩ := h1
  obtain ⟨K, V, hP, hK, hV, hL⟩ := open_puts hf
  unfold maxLen at hs hK hL
  exact valid_law s a1 len1 cap1 K V W (by omega) (by omega) (fun j => hK j) hV hP

theorem over : Rows.fnValidTracksEveryPutRow.holds Try.pinned (OpenSpec.ofChange Rows.fnValidTracksEveryPutSpec) :=
  OpenClaim.holds_of_wide 5 Try.f5 rfl rfl rfl rfl rfl rfl rfl ⟨rfl, rfl, rfl, rfl, rfl⟩ rfl rfl rfl rfl rfl (by kernel_rfl) Try.func5 (by kernel_rfl)
    (of_decide_eq_true (by kernel_rfl)) (by unfold Func.isWrapper; first | (rw [if_pos (by decide +kernel)]; kernel_rfl) | (rw [if_neg (by decide +kernel)]; exact ⟨rfl, rfl⟩))
    (fun os started H enc _ => lifted os started H enc)

/-- THE STATEMENT -/
theorem proved : Rows.FnValidTracksEveryPutSaid := over
end Go.Proofs.Qxb6619464a.fnValidTracksEveryPut

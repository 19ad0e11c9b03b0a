import Derived.Test.Qxb6623402aSmall
import Derived.Deep.Slices
import Derived.Deep.Strs
import Derived.ProofKit
namespace Go.Proofs.Qxb6623402a
open Go.ChangeShapes Go.WideShapes Go.RowKit

theorem cells9 : Try.prog.cellsOf 9 = 1 := by kernel_rfl

/-- A SLICE OF STRINGS, OPENED. -/
theorem open_strs {H : Type} {enc : TypeId × Value → H} {W : World} {fuel : Nat} {u : Value} {x : DataW H × List MemPlace}
    (hf : DataW.trod enc Try.prog W 0 (fun _ => true) true fuel 22 [u] = some x) :
    ∃ r len cap f, u = .slice r len cap ∧ StrsAt W W.heap.size r len f ∧ (∀ j, (f j).size ≤ maxLen) ∧ len ≤ maxLen ∧ len ≤ cap ∧ (r = none → len = 0) := by
  rcases Go.Deep.open_slice Try.underlying22 hf with ⟨hcs, _⟩ | ⟨a, l, c, m, n, D, Pl, hcs, _, hl, hm, hmm, _, hx⟩
  · simp at hcs
    exact ⟨none, 0, 0, fun _ => ByteArray.empty, hcs, fun h => absurd h (by omega), fun _ => (by decide : ByteArray.empty.size ≤ maxLen), Nat.zero_le _, Nat.le_refl _, fun _ => rfl⟩
  · simp at hcs
    subst hcs
    simp only [if_true] at hmm
    subst hmm
    rw [cells9] at hx
    have key : ∀ i, ∃ s : ByteArray, (i < l → W.cell? (a.add i) = some (.string s)) ∧ s.size ≤ maxLen := by
      intro i
      by_cases hi : i < l
      · obtain ⟨cs', h1, h2⟩ := hx i (by omega)
        obtain ⟨_, hlen, hc⟩ := World.cells?_some h1
        match cs', hlen with
        | [u0], _ =>
          obtain ⟨s, e0, _, hs⟩ := DataW.trod_string Try.underlying9 h2
          simp at e0
          subst e0
          refine ⟨s, fun _ => ?_, hs⟩
          have := hc 0 (by omega)
          simpa [Go.Deep.add_add] using this
      · exact ⟨ByteArray.empty, fun h => absurd h hi, by decide⟩
    obtain ⟨f, hfn⟩ := Classical.skolem.1 key
    refine ⟨some a, l, m, f, rfl, fun hp => ?_, fun j => (hfn j).2, by omega, by omega, fun h => by cases h⟩
    obtain ⟨b, off, spot⟩ := a
    have h0 := (hfn 0).1 hp
    have hspot : spot = none := by simpa [Addr.add] using World.cell?_spot h0
    subst hspot
    refine ⟨b, off, rfl, by simpa [Addr.add] using World.block_lt_of_cell? W _ h0, fun j hj => ?_⟩
    have h := (hfn j).1 hj
    simp only [add_plain] at h
    exact h
end Go.Proofs.Qxb6623402a

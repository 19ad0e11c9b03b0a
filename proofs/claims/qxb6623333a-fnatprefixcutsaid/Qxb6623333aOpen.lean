import Derived.Test.Qxb6623333aSize
import Derived.Deep.Slices
import Derived.Deep.Strs
import Derived.ProofKit
namespace Go.Proofs.Qxb6623333a
open Go.ChangeShapes Go.WideShapes Go.RowKit

theorem cells43 : Try.prog.cellsOf 43 = 3 := by kernel_rfl
theorem cells38 : Try.prog.cellsOf 38 = 2 := by kernel_rfl
theorem cells9 : Try.prog.cellsOf 9 = 1 := by kernel_rfl
theorem cells41 : Try.prog.cellsOf 41 = 1 := by kernel_rfl
theorem cells22 : Try.prog.cellsOf 22 = 1 := by kernel_rfl

/-- A SLICE OF STRINGS, OPENED. -/
theorem open_strs {H : Type} {enc : TypeId × Value → H} {W : World} {fuel : Nat} {u : Value} {x : DataW H × List MemPlace}
    (hf : DataW.trod enc Try.prog W 0 (fun _ => true) true fuel 41 [u] = some x) :
    ∃ r len cap f, u = .slice r len cap ∧ StrsAt W W.heap.size r len f ∧ (∀ j, (f j).size ≤ maxLen) ∧ len ≤ maxLen := by
  rcases Go.Deep.open_slice Try.underlying41 hf with ⟨hcs, _⟩ | ⟨a, l, c, m, n, D, Pl, hcs, _, hl, hm, hmm, _, hx⟩
  · simp at hcs
    exact ⟨none, 0, 0, fun _ => ByteArray.empty, hcs, fun h => absurd h (by omega), fun _ => (by decide : ByteArray.empty.size ≤ maxLen), Nat.zero_le _⟩
  · simp at hcs
    subst hcs
    simp only [if_true] at hmm
    subst hmm
    rw [cells9] at hx
    have key : ∀ i, ∃ s : ByteArray, (i < l → W.cell? (a.add i) = some (.string s)) ∧ s.size ≤ maxLen := by
      intro i
      by_cases hi : i < l
      · obtain ⟨cs', h1, h2⟩ := hx i (by omega)
        obtain ⟨_, hlen, hc⟩ := World.cells?_some h1
        match cs', hlen with
        | [u0], _ =>
          obtain ⟨s, e0, _, hs⟩ := DataW.trod_string Try.underlying9 h2
          simp at e0
          subst e0
          refine ⟨s, fun _ => ?_, hs⟩
          have := hc 0 (by omega)
          simpa [Go.Deep.add_add] using this
      · exact ⟨ByteArray.empty, fun h => absurd h hi, by decide⟩
    obtain ⟨f, hfn⟩ := Classical.skolem.1 key
    refine ⟨some a, l, m, f, rfl, fun hp => ?_, fun j => (hfn j).2, by omega⟩
    obtain ⟨b, off, spot⟩ := a
    have h0 := (hfn 0).1 hp
    have hspot : spot = none := by simpa [Addr.add] using World.cell?_spot h0
    subst hspot
    refine ⟨b, off, rfl, by simpa [Addr.add] using World.block_lt_of_cell? W _ h0, fun j hj => ?_⟩
    have h := (hfn j).1 hj
    simp only [add_plain] at h
    exact h

def zEV : EV := ⟨ByteArray.empty, none, 0, 0, fun _ => ByteArray.empty, none, 0, 0, fun _ => ByteArray.empty⟩

/-- the lengths of one element -/
structure EVFit (x : EV) : Prop where
  nm : x.nm.size ≤ maxLen
  kl : x.kl ≤ maxLen
  vl : x.vl ≤ maxLen

theorem zFit : EVFit zEV := ⟨by decide, by decide, by decide⟩

/-- A SLICE OF ZElems, OPENED. -/
theorem open_elems {H : Type} {enc : TypeId × Value → H} {W : World} {fuel : Nat} {u : Value} {x : DataW H × List MemPlace}
    (hf : DataW.trod enc Try.prog W 0 (fun _ => true) true fuel 22 [u] = some x) :
    ∃ r len cap E, u = .slice r len cap ∧ ElemsAt W W.heap.size r len E ∧ (∀ j, EVFit (E j) ∧ (∀ i, ((E j).kf i).size ≤ maxLen) ∧ ∀ i, ((E j).vf i).size ≤ maxLen) ∧ len ≤ maxLen ∧ len ≤ cap := by
  rcases Go.Deep.open_slice Try.underlying22 hf with ⟨hcs, _⟩ | ⟨a, l, c, m, n, D, Pl, hcs, _, hl, hm, hmm, _, hx⟩
  · simp at hcs
    exact ⟨none, 0, 0, fun _ => zEV, hcs, ⟨fun h => absurd h (by omega), fun j hj => absurd hj (by omega)⟩, fun _ => ⟨zFit, fun _ => (by decide : ByteArray.empty.size ≤ maxLen), fun _ => (by decide : ByteArray.empty.size ≤ maxLen)⟩, Nat.zero_le _, Nat.le_refl _⟩
  · simp at hcs
    subst hcs
    simp only [if_true] at hmm
    subst hmm
    rw [cells43] at hx
    have key : ∀ i, ∃ y : EV, (i < l → (W.cell? (a.add (i * 3)) = some (.string y.nm) ∧ W.cell? (a.add (i * 3 + 1)) = some (.slice y.kr y.kl y.kc) ∧ W.cell? (a.add (i * 3 + 2)) = some (.slice y.vr y.vl y.vc)) ∧ EVAt W W.heap.size y) ∧ EVFit y ∧ (∀ i, (y.kf i).size ≤ maxLen) ∧ ∀ i, (y.vf i).size ≤ maxLen := by
      intro i
      by_cases hi : i < l
      · obtain ⟨cs', h1, h2⟩ := hx i (by omega)
        obtain ⟨_, hlen, hc⟩ := World.cells?_some h1
        match cs', hlen with
        | [u0, u1, u2], _ =>
          obtain ⟨y0, y1, y2, n', _, _, t0, t1, t2⟩ := Go.Deep.trod_struct3 Try.underlying43 h2
          rw [cells9] at t0
          rw [cells41] at t1 t2
          obtain ⟨s, e0, _, hs⟩ := DataW.trod_string Try.underlying9 t0
          obtain ⟨kr, kl, kc, kf, rfl, hk, hks, hkl⟩ := open_strs (u := u1) (by simpa using t1)
          obtain ⟨vr, vl, vc, vf, rfl, hv, hvs, hvl⟩ := open_strs (u := u2) (by simpa using t2)
          simp at e0
          subst e0
          refine ⟨⟨s, kr, kl, kc, kf, vr, vl, vc, vf⟩, fun _ => ⟨⟨?_, ?_, ?_⟩, ⟨hk, hv, hks, hvs⟩⟩, ⟨hs, hkl, hvl⟩, hks, hvs⟩
          · simpa [Go.Deep.add_add] using hc 0 (by omega)
          · simpa [Go.Deep.add_add] using hc 1 (by omega)
          · simpa [Go.Deep.add_add] using hc 2 (by omega)
      · exact ⟨zEV, fun h => absurd h hi, ⟨by decide, by decide, by decide⟩, fun _ => (by decide : ByteArray.empty.size ≤ maxLen), fun _ => (by decide : ByteArray.empty.size ≤ maxLen)⟩
    obtain ⟨E, hE⟩ := Classical.skolem.1 key
    refine ⟨some a, l, m, E, rfl, ⟨fun hp => ?_, fun j hj => ((hE j).1 hj).2⟩, fun j => (hE j).2, by omega, hl⟩
    obtain ⟨b, off, spot⟩ := a
    have h0 := ((hE 0).1 hp).1.1
    have hspot : spot = none := by simpa [Addr.add] using World.cell?_spot h0
    subst hspot
    refine ⟨b, off, rfl, by simpa [Addr.add] using World.block_lt_of_cell? W _ h0, fun j hj => ?_⟩
    have h := ((hE j).1 hj).1
    simp only [add_plain] at h
    exact h

def zPV : PV := ⟨ByteArray.empty, none, 0, 0, fun _ => zEV⟩

/-- the lengths of a slice of elements -/
def ESmall (E : Nat → EV) : Prop := ∀ j, EVFit (E j) ∧ (∀ i, ((E j).kf i).size ≤ maxLen) ∧ ∀ i, ((E j).vf i).size ≤ maxLen

theorem zES : ESmall (fun _ => zEV) := fun _ => ⟨zFit, fun _ => (by decide : ByteArray.empty.size ≤ maxLen), fun _ => (by decide : ByteArray.empty.size ≤ maxLen)⟩

/-- A SLICE OF ZPaths, OPENED. -/
theorem open_paths {H : Type} {enc : TypeId × Value → H} {W : World} {fuel : Nat} {u : Value} {x : DataW H × List MemPlace}
    (hf : DataW.trod enc Try.prog W 0 (fun _ => true) true fuel 23 [u] = some x) :
    ∃ r len cap P, u = .slice r len cap ∧ PathsAt W W.heap.size r len P ∧ (∀ j, (P j).o.size ≤ maxLen ∧ (P j).el ≤ maxLen ∧ ESmall (P j).E) ∧ len ≤ maxLen := by
  rcases Go.Deep.open_slice Try.underlying23 hf with ⟨hcs, _⟩ | ⟨a, l, c, m, n, D, Pl, hcs, _, hl, hm, hmm, _, hx⟩
  · simp at hcs
    exact ⟨none, 0, 0, fun _ => zPV, hcs, ⟨fun h => absurd h (by omega), fun j hj => absurd hj (by omega)⟩, fun _ => ⟨(by decide : ByteArray.empty.size ≤ maxLen), Nat.zero_le _, zES⟩, Nat.zero_le _⟩
  · simp at hcs
    subst hcs
    simp only [if_true] at hmm
    subst hmm
    rw [cells38] at hx
    have key : ∀ i, ∃ y : PV, (i < l → (W.cell? (a.add (i * 2)) = some (.string y.o) ∧ W.cell? (a.add (i * 2 + 1)) = some (.slice y.er y.el y.ec)) ∧ ElemsAt W W.heap.size y.er y.el y.E) ∧ y.o.size ≤ maxLen ∧ y.el ≤ maxLen ∧ ESmall y.E := by
      intro i
      by_cases hi : i < l
      · obtain ⟨cs', h1, h2⟩ := hx i (by omega)
        obtain ⟨_, hlen, hc⟩ := World.cells?_some h1
        match cs', hlen with
        | [u0, u1], _ =>
          obtain ⟨y0, y1, n', _, _, t0, t1⟩ := trod_struct2 Try.underlying38 h2
          rw [cells9] at t0
          rw [cells22] at t1
          obtain ⟨s, e0, _, hs⟩ := DataW.trod_string Try.underlying9 t0
          obtain ⟨er, el, ec, E, rfl, hE, hfit, hel, _⟩ := open_elems (u := u1) (by simpa using t1)
          simp at e0
          subst e0
          refine ⟨⟨s, er, el, ec, E⟩, fun _ => ⟨⟨?_, ?_⟩, hE⟩, hs, hel, hfit⟩
          · simpa [Go.Deep.add_add] using hc 0 (by omega)
          · simpa [Go.Deep.add_add] using hc 1 (by omega)
      · exact ⟨zPV, fun h => absurd h hi, (by decide : ByteArray.empty.size ≤ maxLen), Nat.zero_le _, zES⟩
    obtain ⟨P, hP⟩ := Classical.skolem.1 key
    refine ⟨some a, l, m, P, rfl, ⟨fun hp => ?_, fun j hj => ((hP j).1 hj).2⟩, fun j => (hP j).2, by omega⟩
    obtain ⟨b, off, spot⟩ := a
    have h0 := ((hP 0).1 hp).1.1
    have hspot : spot = none := by simpa [Addr.add] using World.cell?_spot h0
    subst hspot
    refine ⟨b, off, rfl, by simpa [Addr.add] using World.block_lt_of_cell? W _ h0, fun j hj => ?_⟩
    have h := ((hP j).1 hj).1
    simp only [add_plain] at h
    exact h
end Go.Proofs.Qxb6623333a

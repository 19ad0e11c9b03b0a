import Derived.Test.Qxb6623333aRows
import Derived.WalkKit
import Derived.Deep.QuietTactic
import Derived.BigQuiet
import Derived.WalkSpells
import Derived.WalkLawsBesides
import Derived.Deep.OwnRows
import Derived.Deep.RegionHeld3
import Derived.Deep.AppendLies
import Derived.Maps.OwnSet
import Derived.Below
import Derived.WalkSmall
namespace Go.Proofs.Qxb6623333a
open Go.ChangeShapes Go.WideShapes Go.RowKit Go.Maps

theorem hide {p : Prop} (h : p) : Hid p := h
theorem unhide {p : Prop} (h : Hid p) : p := h

/-- ONE ZElem: its name; the slices of its keys' names and values. -/
structure EV where
  nm : ByteArray
  kr : Option Addr
  kl : Nat
  kc : Nat
  kf : Nat → ByteArray
  vr : Option Addr
  vl : Nat
  vc : Nat
  vf : Nat → ByteArray

/-- how many keys it gives -/
def EV.cnt (x : EV) : Nat := if x.vl < x.kl then x.vl else x.kl
theorem EV.cnt_k (x : EV) : x.cnt ≤ x.kl := by unfold EV.cnt; split <;> omega
theorem EV.cnt_v (x : EV) : x.cnt ≤ x.vl := by unfold EV.cnt; split <;> omega

/-- as a value -/
def EV.val (x : EV) : Value := .agg #[.string x.nm, .slice x.kr x.kl x.kc, .slice x.vr x.vl x.vc]

/-- ONE ZPath. -/
structure PV where
  o : ByteArray
  er : Option Addr
  el : Nat
  ec : Nat
  E : Nat → EV

/-- a slice of strings, below block B -/
def StrsAt (w : World) (B : Nat) (r : Option Addr) (n : Nat) (f : Nat → ByteArray) : Prop :=
  0 < n → ∃ b off, r = some ⟨b, off, none⟩ ∧ b < B ∧ ∀ j, j < n → w.cell? ⟨b, off + j, none⟩ = some (.string (f j))

theorem StrsAt.later {w w' : World} {B B' : Nat} {r : Option Addr} {n : Nat} {f : Nat → ByteArray} (h : StrsAt w B r n f) (hb : Below B w w') (hB : B ≤ B') : StrsAt w' B' r n f := by
  intro hn
  obtain ⟨b, off, e, hlt, hc⟩ := h hn
  exact ⟨b, off, e, Nat.lt_of_lt_of_le hlt hB, fun j hj => (hb.cell (by exact hlt)).trans (hc j hj)⟩

structure EVAt (w : World) (B : Nat) (x : EV) : Prop where
  k : StrsAt w B x.kr x.kl x.kf
  v : StrsAt w B x.vr x.vl x.vf
  ks : ∀ j, (x.kf j).size ≤ maxLen
  vs : ∀ j, (x.vf j).size ≤ maxLen

theorem EVAt.later {w w' : World} {B B' : Nat} {x : EV} (h : EVAt w B x) (hb : Below B w w') (hB : B ≤ B') : EVAt w' B' x := ⟨h.k.later hb hB, h.v.later hb hB, h.ks, h.vs⟩

/-- a slice of ZElems (3 cells each), below block B -/
def ElemsAt (w : World) (B : Nat) (r : Option Addr) (n : Nat) (E : Nat → EV) : Prop :=
  (0 < n → ∃ b off, r = some ⟨b, off, none⟩ ∧ b < B ∧ ∀ j, j < n → w.cell? ⟨b, off + j * 3, none⟩ = some (.string (E j).nm) ∧ w.cell? ⟨b, off + j * 3 + 1, none⟩ = some (.slice (E j).kr (E j).kl (E j).kc) ∧
    w.cell? ⟨b, off + j * 3 + 2, none⟩ = some (.slice (E j).vr (E j).vl (E j).vc)) ∧ ∀ j, j < n → EVAt w B (E j)

theorem ElemsAt.later {w w' : World} {B B' : Nat} {r : Option Addr} {n : Nat} {E : Nat → EV} (h : ElemsAt w B r n E) (hb : Below B w w') (hB : B ≤ B') : ElemsAt w' B' r n E := by
  refine ⟨fun hn => ?_, fun j hj => (h.2 j hj).later hb hB⟩
  obtain ⟨b, off, e, hlt, hc⟩ := h.1 hn
  refine ⟨b, off, e, Nat.lt_of_lt_of_le hlt hB, fun j hj => ?_⟩
  obtain ⟨h0, h1, h2⟩ := hc j hj
  exact ⟨(hb.cell (by exact hlt)).trans h0, (hb.cell (by exact hlt)).trans h1, (hb.cell (by exact hlt)).trans h2⟩

/-- a part of it -/
theorem ElemsAt.from {w : World} {B : Nat} {r : Option Addr} {n : Nat} {E : Nat → EV} (h : ElemsAt w B r n E) {n' : Nat} (hn : n' ≤ n) : ElemsAt w B r n' E :=
  ⟨fun h0 => by obtain ⟨b, off, e, hlt, hc⟩ := h.1 (by omega); exact ⟨b, off, e, hlt, fun j hj => hc j (by omega)⟩, fun j hj => h.2 j (by omega)⟩

/-- a slice of ZPaths (2 cells each), below block B -/
def PathsAt (w : World) (B : Nat) (r : Option Addr) (n : Nat) (P : Nat → PV) : Prop :=
  (0 < n → ∃ b off, r = some ⟨b, off, none⟩ ∧ b < B ∧ ∀ j, j < n → w.cell? ⟨b, off + j * 2, none⟩ = some (.string (P j).o) ∧ w.cell? ⟨b, off + j * 2 + 1, none⟩ = some (.slice (P j).er (P j).el (P j).ec)) ∧
  ∀ j, j < n → ElemsAt w B (P j).er (P j).el (P j).E

theorem PathsAt.later {w w' : World} {B B' : Nat} {r : Option Addr} {n : Nat} {P : Nat → PV} (h : PathsAt w B r n P) (hb : Below B w w') (hB : B ≤ B') : PathsAt w' B' r n P := by
  refine ⟨fun hn => ?_, fun j hj => (h.2 j hj).later hb hB⟩
  obtain ⟨b, off, e, hlt, hc⟩ := h.1 hn
  refine ⟨b, off, e, Nat.lt_of_lt_of_le hlt hB, fun j hj => ?_⟩
  obtain ⟨h0, h1⟩ := hc j hj
  exact ⟨(hb.cell (by exact hlt)).trans h0, (hb.cell (by exact hlt)).trans h1⟩

/-- THE MAP THAT THE KEYS GIVE, after the first i of them. -/
def DTo (x : EV) : Nat → DataW Unit
  | 0 => .map []
  | i + 1 => (DTo x i).put (.string (x.kf i).data.toList) (.lit (.string (x.vf i).data.toList))

/-- the map value m is x's map: nil where x gives no key -/
def MapIs (w : World) (B : Nat) (m : Option Nat) (x : EV) : Prop :=
  (x.cnt = 0 ∧ m = none) ∨ (0 < x.cnt ∧ ∃ b, m = some b ∧ b < B ∧ w.ownsMap Try.prog 9 (plainElem Try.prog 9) b x.cnt (DTo x x.cnt))

theorem ownsMap_below {w w' : World} {B b n : Nat} {k : TypeId} {R : Value → Option (DataW Unit × List MemPlace)} {D : DataW Unit} (h : w.ownsMap Try.prog k R b n D) (hb : Below B w w') (hlt : b < B) : w'.ownsMap Try.prog k R b n D := by
  obtain ⟨es, cl, h1, h2⟩ := h
  exact ⟨es, cl, (hb.block b hlt).trans h1, h2⟩

theorem MapIs.later {w w' : World} {B B' : Nat} {m : Option Nat} {x : EV} (h : MapIs w B m x) (hb : Below B w w') (hB : B ≤ B') : MapIs w' B' m x := by
  rcases h with h | ⟨h0, b, e, hlt, hown⟩
  · exact .inl h
  · exact .inr ⟨h0, b, e, Nat.lt_of_lt_of_le hlt hB, ownsMap_below hown hb hlt⟩

/-- a slice of Elems (2 cells each: the name, the map), below block B -/
def TElems (w : World) (B : Nat) (r : Option Addr) (n : Nat) (E : Nat → EV) : Prop :=
  0 < n → ∃ b off, r = some ⟨b, off, none⟩ ∧ b < B ∧ ∃ M : Nat → Option Nat, ∀ j, j < n → w.cell? ⟨b, off + j * 2, none⟩ = some (.string (E j).nm) ∧ w.cell? ⟨b, off + j * 2 + 1, none⟩ = some (.map (M j)) ∧ MapIs w B (M j) (E j)

theorem TElems.later {w w' : World} {B B' : Nat} {r : Option Addr} {n : Nat} {E : Nat → EV} (h : TElems w B r n E) (hb : Below B w w') (hB : B ≤ B') : TElems w' B' r n E := by
  intro hn
  obtain ⟨b, off, e, hlt, M, hc⟩ := h hn
  refine ⟨b, off, e, Nat.lt_of_lt_of_le hlt hB, M, fun j hj => ?_⟩
  obtain ⟨h0, h1, h2⟩ := hc j hj
  exact ⟨(hb.cell (by exact hlt)).trans h0, (hb.cell (by exact hlt)).trans h1, h2.later hb hB⟩
end Go.Proofs.Qxb6623333a

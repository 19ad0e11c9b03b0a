import Derived.Test.Qxb6623402aRows
import Derived.WalkKit
import Derived.Deep.QuietTactic
import Derived.BigQuiet
import Derived.WalkSpells
import Derived.WalkLawsBesides
import Derived.Deep.OwnRows
import Derived.Deep.RegionHeld3
import Derived.Deep.AppendLies
import Derived.Maps.OwnSet
import Derived.Below
import Derived.WalkSmall
namespace Go.Proofs.Qxb6623402a
open Go.ChangeShapes Go.WideShapes Go.RowKit Go.Maps

theorem hide {p : Prop} (h : p) : Hid p := h
theorem unhide {p : Prop} (h : Hid p) : p := h

/-- the last place below n where f holds x -/
def last (f : Nat → ByteArray) : Nat → ByteArray → Option Nat
  | 0, _ => none
  | n + 1, x => if f n = x then some n else last f n x

theorem last_succ (f : Nat → ByteArray) (n : Nat) (x : ByteArray) : last f (n + 1) x = if f n = x then some n else last f n x := rfl

theorem last_lt {f : Nat → ByteArray} {x : ByteArray} {j : Nat} : ∀ {n : Nat}, last f n x = some j → j < n
  | n + 1, h => by
    unfold last at h
    split at h
    · cases h; omega
    · have := last_lt h; omega

/-- THE PLAIN LAW: the last place in the whole, from the two parts of a cut. -/
theorem last_split (f : Nat → ByteArray) (cut : Nat) (x : ByteArray) : ∀ k, last f (cut + k) x = match last (fun j => f (cut + j)) k x with | some j => some (cut + j) | none => last f cut x
  | 0 => rfl
  | k + 1 => by
    rw [← Nat.add_assoc, last_succ, last_succ]
    by_cases h : f (cut + k) = x
    · simp [h]
    · simp only [h, if_false]
      exact last_split f cut x k

/-- as a Go int: -1 where there is none -/
def lastInt (f : Nat → ByteArray) (n : Nat) (x : ByteArray) : Int := match last f n x with | some j => (j : Int) | none => -1

/-- the place that a Row finds -/
def placeOf (o : Option Nat) : Int := match o with | some j => (j : Int) | none => 0

/-- a slice of strings, below block B -/
def StrsAt (w : World) (B : Nat) (r : Option Addr) (n : Nat) (f : Nat → ByteArray) : Prop :=
  0 < n → ∃ b off, r = some ⟨b, off, none⟩ ∧ b < B ∧ ∀ j, j < n → w.cell? ⟨b, off + j, none⟩ = some (.string (f j))

theorem StrsAt.later {w w' : World} {B B' : Nat} {r : Option Addr} {n : Nat} {f : Nat → ByteArray} (h : StrsAt w B r n f) (hb : Below B w w') (hB : B ≤ B') : StrsAt w' B' r n f := by
  intro hn
  obtain ⟨b, off, e, hlt, hc⟩ := h hn
  exact ⟨b, off, e, Nat.lt_of_lt_of_le hlt hB, fun j hj => (hb.cell (by exact hlt)).trans (hc j hj)⟩

/-- THE MAP THAT NewRow MAKES, after the first i names. -/
def DTo (f : Nat → ByteArray) : Nat → DataW Unit
  | 0 => .map []
  | i + 1 => (DTo f i).put (.string (f i).data.toList) (.lit (.int .i64 (i : Int)))

theorem DTo_isMap (f : Nat → ByteArray) : ∀ i, IsMap (DTo f i)
  | 0 => ⟨[], rfl⟩
  | i + 1 => (DTo_isMap f i).put _ _

theorem isKey_string (l : List UInt8) : WideAt.IsKeyLit (.string l) := by simp [WideAt.IsKeyLit]

theorem lit_ne {a b : ByteArray} (h : ¬ a = b) : (Lit.string b.data.toList) ≠ .string a.data.toList := fun e => h (by injection e with e; exact (bytes_inj e).symm)

theorem DTo_has (f : Nat → ByteArray) (x : ByteArray) : ∀ n, Maps.has (DTo f n) (.string x.data.toList) = (last f n x).isSome
  | 0 => rfl
  | n + 1 => by
    unfold last DTo
    by_cases h : f n = x
    · rw [h, if_pos rfl, has_put_same (DTo_isMap f n) (isKey_string _)]; rfl
    · rw [if_neg h, has_put_other (lit_ne h)]
      exact DTo_has f x n

theorem DTo_at (f : Nat → ByteArray) (x : ByteArray) (z : DataW Unit) {j : Nat} : ∀ {n : Nat}, last f n x = some j → (DTo f n).atKey (.string x.data.toList) z = .lit (.int .i64 (j : Int))
  | n + 1, e => by
    unfold last at e
    unfold DTo
    by_cases h : f n = x
    · rw [if_pos h] at e
      cases e
      rw [h, atKey_put_same (DTo_isMap f _) (isKey_string _)]
    · rw [if_neg h] at e
      rw [atKey_put_other (lit_ne h)]
      exact DTo_at f x z e

/-- what the map holds of a key that it has -/
theorem DTo_inv (f : Nat → ByteArray) (n : Nat) (x : ByteArray) (c : Int) (h : ∀ z, (DTo f n).atKey (.string x.data.toList) z = .lit (.int .i64 c)) : ∃ j, last f n x = some j ∧ c = (j : Int) := by
  have h1 := has_true_of_atKey h
  rw [DTo_has] at h1
  obtain ⟨j, hj⟩ := Option.isSome_iff_exists.1 h1
  have h2 := DTo_at f x (.map []) hj
  rw [h] at h2
  injection h2 with h2
  injection h2 with _ h2
  exact ⟨j, hj, h2⟩

/-- the bucket of a name -/
def bk (x : ByteArray) : Nat := if 31 < x.size then 31 else x.size
theorem bk_lt (x : ByteArray) : bk x < 32 := by unfold bk; split <;> omega

/-- the cells of a bucket's places -/
def flat : List (ByteArray × Nat) → List Value
  | [] => []
  | p :: r => .string p.1 :: .int .i64 (p.2 : Int) :: flat r
theorem flat_len : ∀ l, (flat l).length = l.length * 2
  | [] => rfl
  | p :: r => by simp [flat, flat_len r]; omega
theorem flat_app : ∀ l m, flat (l ++ m) = flat l ++ flat m
  | [], _ => rfl
  | p :: r, m => by simp [flat, flat_app r m]
theorem flat_get : ∀ (l : List (ByteArray × Nat)) (j : Nat) (s : ByteArray) (a : Nat), l[j]? = some (s, a) → (flat l)[j * 2]? = some (.string s) ∧ (flat l)[j * 2 + 1]? = some (.int .i64 (a : Int))
  | p :: r, 0, s, a, h => by simp at h; subst h; exact ⟨rfl, rfl⟩
  | p :: r, j + 1, s, a, h => by
    have := flat_get r j s a (by simpa using h)
    have e : (j + 1) * 2 = j * 2 + 2 := by omega
    rw [e]
    simpa [flat] using this

/-- the first place that bears the name -/
def seek (x : ByteArray) : List (ByteArray × Nat) → Option Nat
  | [] => none
  | p :: r => if p.1 = x then some p.2 else seek x r

/-- every place is right -/
def Sound (f : Nat → ByteArray) (n : Nat) (l : List (ByteArray × Nat)) : Prop := ∀ p, p ∈ l → last f n p.1 = some p.2

theorem seek_last {f : Nat → ByteArray} {n : Nat} {x : ByteArray} : ∀ {l : List (ByteArray × Nat)}, Sound f n l → (∀ a, last f n x = some a → (x, a) ∈ l) → seek x l = last f n x
  | l, hs, hc => by
    have key : ∀ l : List (ByteArray × Nat), Sound f n l → (seek x l = none ∧ ∀ a, (x, a) ∉ l) ∨ seek x l = last f n x := by
      intro l
      induction l with
      | nil => intro _; exact .inl ⟨rfl, fun a h => by cases h⟩
      | cons p r ih =>
        intro hs
        unfold seek
        by_cases h : p.1 = x
        · rw [if_pos h, ← h, hs p (List.mem_cons_self ..)]; exact .inr rfl
        · rw [if_neg h]
          rcases ih (fun q hq => hs q (List.mem_cons_of_mem _ hq)) with ⟨h1, h2⟩ | h1
          · refine .inl ⟨h1, fun a ha => ?_⟩
            rcases List.mem_cons.1 ha with rfl | ha
            · exact h rfl
            · exact h2 a ha
          · exact .inr h1
    rcases key l hs with ⟨h1, h2⟩ | h1
    · cases e : last f n x with
      | none => exact h1
      | some a => exact absurd (hc a e) (h2 a)
    · exact h1

/-- A ROW'S PLACES at block pb: 32 slices; what they hold is right, and nothing is left out. -/
def PlacesIs (w : World) (B pb : Nat) (f : Nat → ByteArray) (n : Nat) : Prop :=
  pb < B ∧ ∃ L : Nat → List (ByteArray × Nat), (∀ b, b < 32 → ∃ r c, w.cell? ⟨pb, b, none⟩ = some (.slice r (L b).length c) ∧
    (0 < (L b).length → ∃ g, r = some ⟨g, 0, none⟩ ∧ g < B ∧ ∀ j v, (flat (L b))[j]? = some v → w.cell? ⟨g, j, none⟩ = some v) ∧ (L b).length ≤ n ∧ Sound f n (L b)) ∧
    ∀ x a, last f n x = some a → (x, a) ∈ L (bk x)

theorem PlacesIs.later {w w' : World} {B B' pb n : Nat} {f : Nat → ByteArray} (h : PlacesIs w B pb f n) (hb : Below B w w') (hB : B ≤ B') : PlacesIs w' B' pb f n := by
  obtain ⟨hp, L, h1, h2⟩ := h
  refine ⟨Nat.lt_of_lt_of_le hp hB, L, fun b hlt => ?_, h2⟩
  obtain ⟨r, c, e, h3, h4⟩ := h1 b hlt
  refine ⟨r, c, (hb.cell (by exact hp)).trans e, fun h0 => ?_, h4⟩
  obtain ⟨g, e2, hg, h5⟩ := h3 h0
  exact ⟨g, e2, Nat.lt_of_lt_of_le hg hB, fun j v hv => (hb.cell (by exact hg)).trans (h5 j v hv)⟩

/-- A ROW at block rb. -/
def RowIs (w : World) (B rb : Nat) (path : ByteArray) (f : Nat → ByteArray) (n : Nat) : Prop :=
  rb < B ∧ w.cell? ⟨rb, 0, none⟩ = some (.string path) ∧ w.cell? ⟨rb, 1, none⟩ = some (.int .i64 0) ∧ w.cell? ⟨rb, 2, none⟩ = some (.slice none 0 0) ∧ w.cell? ⟨rb, 4, none⟩ = some (.int .i64 0) ∧
  ∃ pb, w.cell? ⟨rb, 3, none⟩ = some (.pointer (some ⟨pb, 0, none⟩)) ∧ PlacesIs w B pb f n

theorem RowIs.later {w w' : World} {B B' rb n : Nat} {path : ByteArray} {f : Nat → ByteArray} (h : RowIs w B rb path f n) (hb : Below B w w') (hB : B ≤ B') : RowIs w' B' rb path f n := by
  obtain ⟨hr, h0, h1, h2, h4, pb, h3, hp⟩ := h
  exact ⟨Nat.lt_of_lt_of_le hr hB, (hb.cell (by exact hr)).trans h0, (hb.cell (by exact hr)).trans h1, (hb.cell (by exact hr)).trans h2, (hb.cell (by exact hr)).trans h4, pb, (hb.cell (by exact hr)).trans h3, hp.later hb hB⟩
end Go.Proofs.Qxb6623402a

import Derived.Test.Qxb6623333aElems
namespace Go.Proofs.Qxb6623333a
open Go.ChangeShapes Go.WideShapes Go.RowKit Go.Maps

/-- cell i of a Path -/
def paAt (s : ByteArray) (q : Option Addr) (n : Nat) (i : Nat) : Value := if i = 0 then .string s else .slice q n n
def zpa (i : Nat) : Value := if i = 0 then .string ⟨#[]⟩ else .slice none 0 0

/-- the new row of Paths after k rounds -/
def paCells (P : Nat → PV) (M : Nat → Option Addr) (k : Nat) : Nat → Value := fun j => if j < k * 2 then paAt (P (j / 2)).o (M (j / 2)) (P (j / 2)).el (j % 2) else zpa (j % 2)

theorem Try.info28 : (Try.prog.info? 28).map (fun i => (i.zero, i.size, i.bytes)) = some (some (.agg #[.string ⟨#[]⟩, .slice none 0 0]), 2, 40) := by kernel_rfl

/-- 'make([]Path, n)'. -/
theorem make_paths (n : Nat) (hn : n ≤ 1048576) (w : World) :
    (Instr.makeSlice 30 (.int .i64 (n : Int)) (.int .i64 (n : Int))).run Try.prog w = .ok (.slice (some ⟨w.heap.size, 0, none⟩) n n) (w.alloc (.cells (madeCells #[.string ⟨#[]⟩, .slice none 0 0] (n * 2)) 28)) := by
  obtain ⟨i, hi, hzz⟩ := Option.map_eq_some_iff.1 Try.info28
  simp only [Prod.mk.injEq] at hzz
  obtain ⟨hz, hs, hb⟩ := hzz
  have hr := run_make (P := Try.prog) w 30 28 i _ Try.underlying30 hi hz .i64 .i64 n n (by omega) (Int.le_refl _) (by rw [hb]; omega) (by omega)
  simp only [Int.toNat_natCast, hs] at hr
  exact hr

theorem paths_made (n : Nat) (w : World) (P : Nat → PV) (M : Nat → Option Addr) :
    (w.alloc (.cells (madeCells #[.string ⟨#[]⟩, .slice none 0 0] (n * 2)) 28)).rowIs w.heap.size 28 (n * 2) (paCells P M 0) := by
  have h := World.rowIs_alloc w (madeCells #[.string ⟨#[]⟩, .slice none 0 0] (n * 2)) 28 (paCells P M 0) (fun i hi => ?_)
  · rwa [size_madeCells] at h
  rw [size_madeCells] at hi
  have h5 : i % 2 < 2 := Nat.mod_lt _ (by omega)
  simp only [madeCells, Array.getElem?_map, Array.getElem?_range, hi, if_true]
  simp only [paCells, Nat.zero_mul, Nat.not_lt_zero, if_false, Option.map_some, zpa]
  match h : i % 2, h5 with
  | 0, _ => simp
  | 1, _ => simp

/-- a Path stored at place k -/
def setPa (w : World) (B k : Nat) (s : ByteArray) (q : Option Addr) (n : Nat) : World := (w.setCell ⟨B, k * 2, none⟩ (.string s)).setCell ⟨B, k * 2 + 1, none⟩ (.slice q n n)

theorem pa_set {w : World} {B n k : Nat} {P : Nat → PV} {M M' : Nat → Option Addr} (h : w.rowIs B 28 (n * 2) (paCells P M k)) (hM : ∀ j, j < k → M' j = M j) : (setPa w B k (P k).o (M' k) (P k).el).rowIs B 28 (n * 2) (paCells P M' (k + 1)) := by
  refine ((h.set (k * 2) (.string (P k).o)).set (k * 2 + 1) (.slice (M' k) (P k).el (P k).el)).congr fun i hi => ?_
  unfold paCells
  by_cases h1 : i < k * 2
  · have a0 : ¬ i = k * 2 := by omega
    have a1 : ¬ i = k * 2 + 1 := by omega
    have a5 : i < (k + 1) * 2 := by omega
    simp only [a0, a1, a5, h1, if_true, if_false]
    rw [hM _ (by omega)]
  · by_cases h2 : i < (k + 1) * 2
    · have hd : i / 2 = k := by omega
      simp only [h2, if_true, hd]
      have hr : i = k * 2 ∨ i = k * 2 + 1 := by omega
      rcases hr with rfl | rfl
      · have e : k * 2 % 2 = 0 := by omega
        simp [e, paAt]
      · have e : (k * 2 + 1) % 2 = 1 := by omega
        simp [e, paAt]
    · have a0 : ¬ i = k * 2 := by omega
      have a1 : ¬ i = k * 2 + 1 := by omega
      simp only [a0, a1, h1, h2, if_false]

theorem Below.setPa {w w' : World} {B k b : Nat} {s : ByteArray} {q : Option Addr} {n : Nat} (h : Below B w w') (hb : B ≤ b) : Below B w (setPa w' b k s q n) :=
  (h.setCell (p := ⟨b, k * 2, none⟩) hb _).setCell (p := ⟨b, k * 2 + 1, none⟩) hb _

theorem setPa_size (w : World) (b k : Nat) (s : ByteArray) (q : Option Addr) (n : Nat) : (setPa w b k s q n).heap.size = w.heap.size := by simp [setPa]

/-- ELEMENTS THAT LIE AWAY FROM BLOCK b, above D. -/
def TFar (w : World) (D : Nat) (r : Option Addr) (n : Nat) (E : Nat → EV) : Prop := TElems w w.heap.size r n E ∧ ∀ x, 0 < n → r = some x → D < x.block

theorem TElems.setPa {w : World} {b B n k t l : Nat} {f : Nat → Value} {s : ByteArray} {q r : Option Addr} {m : Nat} {E : Nat → EV} (h : TElems w B r n E) (hfar : ∀ x, 0 < n → r = some x → x.block ≠ b) (hr : w.rowIs b t l f) : TElems (setPa w b k s q m) B r n E := by
  intro hn
  obtain ⟨c, off, e, hlt, M, hc⟩ := h hn
  have hne : c ≠ b := hfar ⟨c, off, none⟩ hn e
  refine ⟨c, off, e, hlt, M, fun j hj => ?_⟩
  obtain ⟨h0, h1, h2⟩ := hc j hj
  have far : ∀ o, (Qxb6623333a.setPa w b k s q m).cell? ⟨c, o, none⟩ = w.cell? ⟨c, o, none⟩ := fun o => by
    simp only [Qxb6623333a.setPa]
    rw [World.cell?_setCell_far _ _ _ _ (fun h => hne h.symm), World.cell?_setCell_far _ _ _ _ (fun h => hne h.symm)]
  refine ⟨(far _).trans h0, (far _).trans h1, ?_⟩
  rcases h2 with h2 | ⟨h0, d, e, hlt, hown⟩
  · exact .inl h2
  · have hnd := map_not_row hown hr
    exact .inr ⟨h0, d, e, hlt, (hown.setCell hnd _).setCell hnd _⟩

/-- WHAT zzPaths LEAVES. -/
def MadePaths (w' : World) (b n k : Nat) (P : Nat → PV) : Prop := ∃ M : Nat → Option Addr, w'.rowIs b 28 (n * 2) (paCells P M k) ∧ ∀ j, j < k → TElems w' w'.heap.size (M j) (P j).el (P j).E ∧ ∀ x, 0 < (P j).el → M j = some x → b < x.block

theorem paths_step {wd w1 : World} {b n k : Nat} {P : Nat → PV} {M : Nat → Option Addr} {m : Option Addr} {y : PV} (hr : w1.rowIs b 28 (n * 2) (paCells P M k)) (hM : ∀ j, j < k → TElems wd wd.heap.size (M j) (P j).el (P j).E ∧ ∀ x, 0 < (P j).el → M j = some x → b < x.block) (hb : Below wd.heap.size wd w1)
    (hm : TElems w1 w1.heap.size m y.el y.E) (hmb : ∀ x, 0 < y.el → m = some x → b < x.block) (hy : P k = y) : MadePaths (setPa w1 b k y.o m y.el) b n (k + 1) P := by
  refine ⟨fun j => if j = k then m else M j, ?_, fun j hj => ?_⟩
  · have h := pa_set (M' := fun j => if j = k then m else M j) hr (fun j hj => by simp; omega)
    rw [hy] at h
    simpa using h
  · rw [setPa_size]
    by_cases e : j = k
    · subst e
      simp only [if_true, hy]
      exact ⟨hm.setPa (fun x h0 hx => Nat.ne_of_gt (hmb x h0 hx)) hr, hmb⟩
    · simp only [if_neg e]
      obtain ⟨h1, h2⟩ := hM j (by omega)
      exact ⟨(h1.later hb hb.size).setPa (fun x h0 hx => Nat.ne_of_gt (h2 x h0 hx)) hr, h2⟩

/-- zzElems with the block said. -/
theorem zzElems' (a : Option Addr) (n c : Nat) (E : Nat → EV) (w : World) (D : Nat) (hD : D < w.heap.size) (hn : n ≤ 1048576) (ha : a = none → n = 0) (hS : ∀ j, j < n → KeysSmall (E j)) (hA : ElemsAt w w.heap.size a n E) :
    Calls Try.prog 7 #[.slice a n c] w fun e w' => ∃ r, e = .returned (.slice r n n) ∧ Below w.heap.size w w' ∧ TElems w' w'.heap.size r n E ∧ ∀ x, 0 < n → r = some x → D < x.block := by
  cases a with
  | none =>
    obtain rfl := ha rfl
    refine (zzElems_none c w).mono ?_
    rintro e w' ⟨rfl, rfl⟩
    exact ⟨none, rfl, Below.refl _ _, fun h => absurd h (by omega), fun _ h => absurd h (by omega)⟩
  | some x =>
    refine (zzElems_some x n c E w hn hS hA).mono ?_
    rintro e w' ⟨rfl, hb, hr⟩
    exact ⟨_, rfl, hb, made_telems hr, fun x _ hx => by cases hx; exact hD⟩

/-- what zzPaths asks of its paths -/
structure PathsOk (n : Nat) (P : Nat → PV) : Prop where
  el : ∀ j, j < n → (P j).el ≤ 1048576
  nil : ∀ j, j < n → (P j).er = none → (P j).el = 0
  keys : ∀ j, j < n → ∀ i, i < (P j).el → KeysSmall ((P j).E i)

set_option maxHeartbeats 2000000 in
theorem zzPaths_some (x : Addr) (n c : Nat) (P : Nat → PV) (w : World) (hn : n ≤ 1048576) (hS : PathsOk n P) (hA : PathsAt w w.heap.size (some x) n P) :
    Calls Try.prog 8 #[.slice (some x) n c] w fun e w' => e = .returned (.slice (some ⟨w.heap.size, 0, none⟩) n n) ∧ Below w.heap.size w w' ∧ MadePaths w' w.heap.size n n P := by
  have hmk := make_paths n hn w
  have R0 := hide (paths_made n w P (fun _ => none))
  have B0 : Hid (Below w.heap.size w (w.alloc (.cells (madeCells #[.string ⟨#[]⟩, .slice none 0 0] (n * 2)) 28))) := (Below.refl _ _).alloc (Nat.le_refl _) _
  have HA := hide hA
  have HS := hide hS
  clear hA hS
  have hq := fun w => Lib.run_eql_slice_nil (P := Try.prog) w 23 38 (some x) n c 0 0 Try.underlying23
  go_enter Try.func8, Try.ntmps8
  go_wp2
  go_loopw [4] (fun i wr => ∃ k : Nat, k ≤ n ∧ i = .int .i64 k ∧ MadePaths wr w.heap.size n k P ∧ Below w.heap.size w wr) (fun i _ => n - (intOf i).toNat)
  case atStart => exact ⟨0, Nat.zero_le _, rfl, ⟨_, unhide R0, fun j hj => absurd hj (by omega)⟩, unhide B0⟩
  case round =>
    obtain ⟨k, hk, rfl, ⟨M, hrow, hmaps⟩, hbel⟩ := hrel
    clear hmk R0 B0 hq
    have ROW := hide hrow
    have MAPS := hide hmaps
    have BEL := hide hbel
    have zl := hrow.lt
    clear hrow hbel hmaps
    by_cases hlt : k < n
    · obtain ⟨b, off, e, hb, hc⟩ := (unhide HA).1 (by omega)
      have EVK := hide (((unhide HA).2 k hlt).later (unhide BEL) (unhide BEL).size)
      have KS := hide (unhide HS |>.keys k hlt)
      have KN := hide (unhide HS |>.nil k hlt)
      have KL := hide (unhide HS |>.el k hlt)
      cases e
      obtain ⟨h0, h1⟩ := hc k hlt
      have g0 := ((unhide BEL).cell (p := ⟨b, off + k * 2, none⟩) hb).trans h0
      have g1 := ((unhide BEL).cell (p := ⟨b, off + k * 2 + 1, none⟩) hb).trans h1
      clear h0 h1 hc
      have n1 : ¬ b = w.heap.size := by omega
      have n2 : ¬ w.heap.size = b := by omega
      have i1 : (0 : Int) ≤ (k : Int) := by omega
      have i2 : (k : Int) < (n : Int) := by omega
      generalize hy : P k = y at g0 g1 EVK KS KN KL
      have HY := hide hy
      clear hy
      obtain ⟨yo, er, el, ec, E⟩ := y
      simp only at g0 g1
      have ROWd := hide (unhide ROW).drew
      have zd : w.heap.size < wr.drew.heap.size := by simpa using zl
      have EVKd : Hid (ElemsAt wr.drew wr.drew.heap.size er el E) := (unhide EVK).later (Below.refl _ _).drew (by simp)
      have MAPSd : Hid (∀ j, j < k → TElems wr.drew wr.drew.heap.size (M j) (P j).el (P j).E ∧ ∀ x, 0 < (P j).el → M j = some x → w.heap.size < x.block) := fun j hj => ⟨((unhide MAPS) j hj).1.later (Below.refl _ _).drew (by simp), ((unhide MAPS) j hj).2⟩
      go_wp2
      go_region_held3 (fun w' => w'.cell? ⟨b, off + k * 2, none⟩ = some (.string yo) ∧ w'.cell? ⟨b, off + k * 2 + 1, none⟩ = some (.slice er el ec)) (go_keep)
        (first | (go_at_call 7; refine (zzElems' er el ec E _ w.heap.size (by exact zd) (unhide KL) (unhide KN) (unhide KS) (by exact unhide EVKd)).mono ?_; rintro e w1 ⟨m, rfl, hb1, hm1, hm2⟩; have q2 := cell_later hb1 (by exact g0); have q3 := cell_later hb1 (by exact g1); have ROW1 := hide (rowIs_below (unhide ROWd) hb1 zd); have q0 := (unhide ROW1).cell (i := k * 2) (by omega); have q1 := (unhide ROW1).cell (i := k * 2 + 1) (by omega); have f0 := (unhide ROW1).frozen (k * 2); have f1 := (unhide ROW1).frozen (k * 2 + 1)))
      have B1 := hide ((Below.setPa (k := k) (s := yo) (q := m) (n := el) ((unhide BEL).drew.trans (hb1.mono (Nat.le_of_lt zd))) (Nat.le_refl _)))
      have S1 := hide (paths_step (unhide ROW1) (unhide MAPSd) hb1 hm1 hm2 (unhide HY))
      clear hb1 hm1 hm2 ROW1 q0 q1 q2 q3 f0 f1 g0 g1
      go_wp2
      go_roundw
      case rel => exact ⟨k + 1, by omega, by go_num, unhide S1, unhide B1⟩
      case measure => simp [intOf]; omega
    · obtain rfl : k = n := by omega
      go_wp2
      go_ret
      exact ⟨rfl, unhide BEL, M, unhide ROW, unhide MAPS⟩

/-- ONE PATH OF WHAT zzPaths LEAVES. -/
def TPath (w : World) (r : Option Addr) (j : Nat) (y : PV) : Prop := ∃ b q, r = some ⟨b, 0, none⟩ ∧ b < w.heap.size ∧ w.cell? ⟨b, j * 2, none⟩ = some (.string y.o) ∧ w.cell? ⟨b, j * 2 + 1, none⟩ = some (.slice q y.el y.el) ∧ TElems w w.heap.size q y.el y.E

/-- zzPaths: THE SAME PATHS, in new memory. -/
theorem zzPaths (a : Option Addr) (n c : Nat) (P : Nat → PV) (w : World) (i : Nat) (hi : i < n) (hn : n ≤ 1048576) (hS : PathsOk n P) (hA : PathsAt w w.heap.size a n P) :
    Calls Try.prog 8 #[.slice a n c] w fun e w' => ∃ r, e = .returned (.slice r n n) ∧ Below w.heap.size w w' ∧ TPath w' r i (P i) := by
  obtain ⟨b, off, rfl, _⟩ := hA.1 (by omega)
  refine (zzPaths_some _ n c P w hn hS hA).mono ?_
  rintro e w' ⟨rfl, hb, M, hr, hm⟩
  refine ⟨_, rfl, hb, w.heap.size, M i, rfl, hr.lt, ?_, ?_, (hm i hi).1⟩
  · rw [hr.cell (i := i * 2) (by omega)]
    have e1 : i * 2 < n * 2 := by omega
    have e2 : i * 2 / 2 = i := by omega
    have e3 : i * 2 % 2 = 0 := by omega
    simp [paCells, e1, e2, e3, paAt]
  · rw [hr.cell (i := i * 2 + 1) (by omega)]
    have e1 : i * 2 + 1 < n * 2 := by omega
    have e2 : (i * 2 + 1) / 2 = i := by omega
    have e3 : (i * 2 + 1) % 2 = 1 := by omega
    simp [paCells, e1, e2, e3, paAt]
end Go.Proofs.Qxb6623333a

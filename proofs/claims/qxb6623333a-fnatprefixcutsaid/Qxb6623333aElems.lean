import Derived.Test.Qxb6623333aMatch
namespace Go.Proofs.Qxb6623333a
open Go.ChangeShapes Go.WideShapes Go.RowKit Go.Maps

/-- cell i of an Elem -/
def elAt (s : ByteArray) (m : Option Nat) (i : Nat) : Value := if i = 0 then .string s else .map m

/-- the new row of Elems after k rounds -/
def elCells (E : Nat → EV) (M : Nat → Option Nat) (k : Nat) : Nat → Value := fun j => if j < k * 2 then elAt (E (j / 2)).nm (M (j / 2)) (j % 2) else elAt ⟨#[]⟩ none (j % 2)

theorem Try.info48 : (Try.prog.info? 48).map (fun i => (i.zero, i.size, i.bytes)) = some (some (.agg #[.string ⟨#[]⟩, .map none]), 2, 24) := by kernel_rfl

/-- 'make([]Elem, n)'. -/
theorem make_elems (n : Nat) (hn : n ≤ 1048576) (w : World) :
    (Instr.makeSlice 26 (.int .i64 (n : Int)) (.int .i64 (n : Int))).run Try.prog w = .ok (.slice (some ⟨w.heap.size, 0, none⟩) n n) (w.alloc (.cells (madeCells #[.string ⟨#[]⟩, .map none] (n * 2)) 48)) := by
  obtain ⟨i, hi, hzz⟩ := Option.map_eq_some_iff.1 Try.info48
  simp only [Prod.mk.injEq] at hzz
  obtain ⟨hz, hs, hb⟩ := hzz
  have hr := run_make (P := Try.prog) w 26 48 i _ Try.underlying26 hi hz .i64 .i64 n n (by omega) (Int.le_refl _) (by rw [hb]; omega) (by omega)
  simp only [Int.toNat_natCast, hs] at hr
  exact hr

theorem elems_made (n : Nat) (w : World) (E : Nat → EV) (M : Nat → Option Nat) :
    (w.alloc (.cells (madeCells #[.string ⟨#[]⟩, .map none] (n * 2)) 48)).rowIs w.heap.size 48 (n * 2) (elCells E M 0) := by
  have h := World.rowIs_alloc w (madeCells #[.string ⟨#[]⟩, .map none] (n * 2)) 48 (elCells E M 0) (fun i hi => ?_)
  · rwa [size_madeCells] at h
  rw [size_madeCells] at hi
  have h5 : i % 2 < 2 := Nat.mod_lt _ (by omega)
  simp only [madeCells, Array.getElem?_map, Array.getElem?_range, hi, if_true]
  simp only [elCells, Nat.zero_mul, Nat.not_lt_zero, if_false, Option.map_some, elAt]
  match h : i % 2, h5 with
  | 0, _ => simp
  | 1, _ => simp

/-- an Elem stored at place k -/
def setEl (w : World) (B k : Nat) (s : ByteArray) (m : Option Nat) : World := (w.setCell ⟨B, k * 2, none⟩ (.string s)).setCell ⟨B, k * 2 + 1, none⟩ (.map m)

theorem el_set {w : World} {B n k : Nat} {E : Nat → EV} {M M' : Nat → Option Nat} (h : w.rowIs B 48 (n * 2) (elCells E M k)) (hM : ∀ j, j < k → M' j = M j) : (setEl w B k (E k).nm (M' k)).rowIs B 48 (n * 2) (elCells E M' (k + 1)) := by
  refine ((h.set (k * 2) (.string (E k).nm)).set (k * 2 + 1) (.map (M' k))).congr fun i hi => ?_
  unfold elCells
  by_cases h1 : i < k * 2
  · have a0 : ¬ i = k * 2 := by omega
    have a1 : ¬ i = k * 2 + 1 := by omega
    have a5 : i < (k + 1) * 2 := by omega
    simp only [a0, a1, a5, h1, if_true, if_false]
    rw [hM _ (by omega)]
  · by_cases h2 : i < (k + 1) * 2
    · have hd : i / 2 = k := by omega
      simp only [h2, if_true, hd]
      have hr : i = k * 2 ∨ i = k * 2 + 1 := by omega
      rcases hr with rfl | rfl
      · have e : k * 2 % 2 = 0 := by omega
        simp [e, elAt]
      · have e : (k * 2 + 1) % 2 = 1 := by omega
        simp [e, elAt]
    · have a0 : ¬ i = k * 2 := by omega
      have a1 : ¬ i = k * 2 + 1 := by omega
      simp only [a0, a1, h1, h2, if_false]

theorem Below.setEl {w w' : World} {B k b : Nat} {s : ByteArray} {m : Option Nat} (h : Below B w w') (hb : B ≤ b) : Below B w (setEl w' b k s m) :=
  (h.setCell (p := ⟨b, k * 2, none⟩) hb _).setCell (p := ⟨b, k * 2 + 1, none⟩) hb _

/-- a map is no row -/
theorem map_not_row {w : World} {b B n c : Nat} {t k : TypeId} {f : Nat → Value} {R : Value → Option (DataW Unit × List MemPlace)} {D : DataW Unit} (h : w.ownsMap Try.prog k R b c D) (hr : w.rowIs B t n f) : b ≠ B := by
  rintro rfl
  obtain ⟨es, cl, h1, _⟩ := h
  obtain ⟨cs, h2, _⟩ := hr
  rw [h1] at h2
  cases h2

theorem rowIs_below {w w' : World} {B b n : Nat} {t : TypeId} {f : Nat → Value} (h : w.rowIs b t n f) (hb : Below B w w') (hlt : b < B) : w'.rowIs b t n f := h.of_block (hb.block b hlt)

theorem setEl_size (w : World) (b k : Nat) (s : ByteArray) (m : Option Nat) : (setEl w b k s m).heap.size = w.heap.size := by simp [setEl]

theorem MapIs.setEl {w : World} {b B n k t : Nat} {f : Nat → Value} {s : ByteArray} {m' m : Option Nat} {x : EV} (h : MapIs w B m x) (hr : w.rowIs b t n f) : MapIs (setEl w b k s m') B m x := by
  rcases h with h | ⟨h0, c, e, hlt, hown⟩
  · exact .inl h
  · have hne := map_not_row hown hr
    exact .inr ⟨h0, c, e, hlt, (hown.setCell hne _).setCell hne _⟩

/-- WHAT zzElems LEAVES of a slice that is not nil: a new row, and its maps. -/
def MadeElems (w' : World) (b n : Nat) (E : Nat → EV) : Prop := ∃ M : Nat → Option Nat, w'.rowIs b 48 (n * 2) (elCells E M n) ∧ ∀ j, j < n → MapIs w' w'.heap.size (M j) (E j)

theorem made_step {wd w1 : World} {b n k : Nat} {E : Nat → EV} {M : Nat → Option Nat} {m : Option Nat} {y : EV} (hr : w1.rowIs b 48 (n * 2) (elCells E M k)) (hM : ∀ j, j < k → MapIs wd wd.heap.size (M j) (E j)) (hb : Below wd.heap.size wd w1) (hm : MapIs w1 w1.heap.size m y) (hy : E k = y) :
    ∃ M' : Nat → Option Nat, (setEl w1 b k y.nm m).rowIs b 48 (n * 2) (elCells E M' (k + 1)) ∧ ∀ j, j < k + 1 → MapIs (setEl w1 b k y.nm m) (setEl w1 b k y.nm m).heap.size (M' j) (E j) := by
  refine ⟨fun j => if j = k then m else M j, ?_, fun j hj => ?_⟩
  · have h := el_set (M' := fun j => if j = k then m else M j) hr (fun j hj => by simp; omega)
    rw [hy] at h
    simpa using h
  · rw [setEl_size]
    by_cases e : j = k
    · subst e
      simp only [if_true, hy]
      exact hm.setEl hr
    · simp only [if_neg e]
      exact ((hM j (by omega)).later hb hb.size).setEl hr

set_option maxHeartbeats 2000000 in
theorem zzElems_some (x : Addr) (n c : Nat) (E : Nat → EV) (w : World) (hn : n ≤ 1048576) (hS : ∀ j, j < n → KeysSmall (E j)) (hA : ElemsAt w w.heap.size (some x) n E) :
    Calls Try.prog 7 #[.slice (some x) n c] w fun e w' => e = .returned (.slice (some ⟨w.heap.size, 0, none⟩) n n) ∧ Below w.heap.size w w' ∧ MadeElems w' w.heap.size n E := by
  have hmk := make_elems n hn w
  have R0 := hide (elems_made n w E (fun _ => none))
  have B0 : Hid (Below w.heap.size w (w.alloc (.cells (madeCells #[.string ⟨#[]⟩, .map none] (n * 2)) 48))) := (Below.refl _ _).alloc (Nat.le_refl _) _
  have HA := hide hA
  have HS := hide hS
  clear hA hS
  have hq := fun w => Lib.run_eql_slice_nil (P := Try.prog) w 22 43 (some x) n c 0 0 Try.underlying22
  go_enter Try.func7, Try.ntmps7
  go_wp2
  go_loopw [4] (fun i wr => ∃ k : Nat, k ≤ n ∧ i = .int .i64 k ∧ (∃ M : Nat → Option Nat, wr.rowIs w.heap.size 48 (n * 2) (elCells E M k) ∧ ∀ j, j < k → MapIs wr wr.heap.size (M j) (E j)) ∧ Below w.heap.size w wr) (fun i _ => n - (intOf i).toNat)
  case atStart => exact ⟨0, Nat.zero_le _, rfl, ⟨_, unhide R0, fun j hj => absurd hj (by omega)⟩, unhide B0⟩
  case round =>
    obtain ⟨k, hk, rfl, ⟨M, hrow, hmaps⟩, hbel⟩ := hrel
    clear hmk R0 B0 hq
    have ROW := hide hrow
    have MAPS := hide hmaps
    have BEL := hide hbel
    have zl := hrow.lt
    clear hrow hbel hmaps
    by_cases hlt : k < n
    · obtain ⟨b, off, e, hb, hc⟩ := (unhide HA).1 (by omega)
      have EVK := hide (((unhide HA).2 k hlt).later (unhide BEL) (unhide BEL).size)
      have KS := hide (unhide HS k hlt)
      cases e
      obtain ⟨h0, h1, h2⟩ := hc k hlt
      have g0 := ((unhide BEL).cell (p := ⟨b, off + k * 3, none⟩) hb).trans h0
      have g1 := ((unhide BEL).cell (p := ⟨b, off + k * 3 + 1, none⟩) hb).trans h1
      have g2 := ((unhide BEL).cell (p := ⟨b, off + k * 3 + 2, none⟩) hb).trans h2
      clear h0 h1 h2 hc
      have r0 := (unhide ROW).cell (i := k * 2) (by omega)
      have r1 := (unhide ROW).cell (i := k * 2 + 1) (by omega)
      have f0 := (unhide ROW).frozen (k * 2)
      have f1 := (unhide ROW).frozen (k * 2 + 1)
      have n1 : ¬ b = w.heap.size := by omega
      have n2 : ¬ w.heap.size = b := by omega
      have i1 : (0 : Int) ≤ (k : Int) := by omega
      have i2 : (k : Int) < (n : Int) := by omega
      generalize hy : E k = y at g0 g1 g2 EVK KS
      have HY := hide hy
      clear hy
      obtain ⟨nm, kr, kl, kc, kf, vr, vl, vc, vf⟩ := y
      simp only at g0 g1 g2
      have ROWd := hide (unhide ROW).drew
      have zd : w.heap.size < wr.drew.heap.size := by simpa using zl
      have EVKd : Hid (EVAt wr.drew wr.drew.heap.size ⟨nm, kr, kl, kc, kf, vr, vl, vc, vf⟩) := (unhide EVK).later (Below.refl _ _).drew (by simp)
      have MAPSd : Hid (∀ j, j < k → MapIs wr.drew wr.drew.heap.size (M j) (E j)) := fun j hj => ((unhide MAPS) j hj).later (Below.refl _ _).drew (by simp)
      clear r0 r1 f0 f1
      go_wp2
      go_region_held3 (fun w' => w'.cell? ⟨b, off + k * 3, none⟩ = some (.string nm) ∧ w'.cell? ⟨b, off + k * 3 + 1, none⟩ = some (.slice kr kl kc) ∧ w'.cell? ⟨b, off + k * 3 + 2, none⟩ = some (.slice vr vl vc)) (go_keep)
        (first | (go_at_call 15; refine (zzMap ⟨nm, kr, kl, kc, kf, vr, vl, vc, vf⟩ _ (unhide KS) (by exact unhide EVKd)).mono ?_; rintro e w1 ⟨m, rfl, hb1, hm1⟩; have q2 := cell_later hb1 (by exact g0); have q3 := cell_later hb1 (by exact g1); have q4 := cell_later hb1 (by exact g2); have ROW1 := hide (rowIs_below (unhide ROWd) hb1 zd); have q0 := (unhide ROW1).cell (i := k * 2) (by omega); have q1 := (unhide ROW1).cell (i := k * 2 + 1) (by omega); have f0 := (unhide ROW1).frozen (k * 2); have f1 := (unhide ROW1).frozen (k * 2 + 1)))
      have B1 := hide ((Below.setEl (k := k) (s := nm) (m := m) ((unhide BEL).drew.trans (hb1.mono (Nat.le_of_lt zd))) (Nat.le_refl _)))
      have S1 := hide (made_step (unhide ROW1) (unhide MAPSd) hb1 hm1 (unhide HY))
      clear hb1 hm1 ROW1 q0 q1 q2 q3 q4 f0 f1 g0 g1 g2
      go_wp2
      go_roundw
      case rel => exact ⟨k + 1, by omega, by go_num, unhide S1, unhide B1⟩
      case measure => simp [intOf]; omega
    · obtain rfl : k = n := by omega
      go_wp2
      go_ret
      exact ⟨rfl, unhide BEL, M, unhide ROW, unhide MAPS⟩

theorem zzElems_none (c : Nat) (w : World) : Calls Try.prog 7 #[.slice none 0 c] w fun e w' => e = .returned (.slice none 0 0) ∧ w = w' := by
  have hq := fun w => Lib.run_eql_slice_nil (P := Try.prog) w 22 43 none 0 c 0 0 Try.underlying22
  go_enter Try.func7, Try.ntmps7
  go_wp2
  go_ret
  exact ⟨rfl, rfl⟩

theorem made_telems {w : World} {b n : Nat} {E : Nat → EV} (h : MadeElems w b n E) : TElems w w.heap.size (some ⟨b, 0, none⟩) n E := by
  obtain ⟨M, hr, hm⟩ := h
  intro _
  refine ⟨b, 0, rfl, hr.lt, M, fun j hj => ?_⟩
  have key : ∀ r, r < 2 → w.cell? ⟨b, 0 + j * 2 + r, none⟩ = some (elAt (E j).nm (M j) r) := by
    intro r hr'
    rw [Nat.zero_add, hr.cell (i := j * 2 + r) (by omega)]
    have e1 : j * 2 + r < n * 2 := by omega
    have e2 : (j * 2 + r) / 2 = j := by omega
    have e3 : (j * 2 + r) % 2 = r := by omega
    simp only [elCells, e1, e2, e3, if_true]
  exact ⟨key 0 (by omega), key 1 (by omega), hm j hj⟩

/-- zzElems: THE SAME ELEMENTS, in new memory (nil of nil). -/
theorem zzElems (a : Option Addr) (n c : Nat) (E : Nat → EV) (w : World) (hn : n ≤ 1048576) (ha : a = none → n = 0) (hS : ∀ j, j < n → KeysSmall (E j)) (hA : ElemsAt w w.heap.size a n E) :
    Calls Try.prog 7 #[.slice a n c] w fun e w' => ∃ r, e = .returned (.slice r n n) ∧ Below w.heap.size w w' ∧ TElems w' w'.heap.size r n E := by
  cases a with
  | none =>
    obtain rfl := ha rfl
    refine (zzElems_none c w).mono ?_
    rintro e w' ⟨rfl, rfl⟩
    exact ⟨none, rfl, Below.refl _ _, fun h => absurd h (by omega)⟩
  | some x =>
    refine (zzElems_some x n c E w hn hS hA).mono ?_
    rintro e w' ⟨rfl, hb, hr⟩
    exact ⟨_, rfl, hb, made_telems hr⟩
end Go.Proofs.Qxb6623333a

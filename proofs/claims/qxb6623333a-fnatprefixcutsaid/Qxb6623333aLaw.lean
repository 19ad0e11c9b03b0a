import Derived.Test.Qxb6623333aPathMatch
import Derived.Deep.CutRange
namespace Go.Proofs.Qxb6623333a
open Go.ChangeShapes Go.WideShapes Go.RowKit Go.Maps

def AnyB (w : World) (e : Ending) (w' : World) : Prop := ∃ bo, e = .returned (.bool bo) ∧ w = w'

theorem Try.info43 : (Try.prog.info? 43).map (fun i => i.size) = some 3 := by kernel_rfl

theorem TElems.congr {w : World} {B n n' : Nat} {r : Option Addr} {G G' : Nat → EV} (h : TElems w B r n G) (hn : n = n') (hg : ∀ j, j < n → G j = G' j) : TElems w B r n' G' := by
  subst hn
  intro h0
  obtain ⟨b, off, e, hlt, M, hc⟩ := h h0
  refine ⟨b, off, e, hlt, M, fun j hj => ?_⟩
  rw [← hg j hj]
  exact hc j hj

/-- the head from k on -/
theorem slice_from (r : Option Addr) (n c k : Nat) (E : Nat → EV) (w0 : World) (B : Nat) (hk : k ≤ n) (hc : n ≤ c) (hA : ElemsAt w0 B r n E) (hr : r = none → n = 0) :
    ∃ r', (∀ w, (Instr.slice 22 (.slice r n c) (some (.int .i64 (k : Int))) none none).run Try.prog w = .ok (.slice r' (n - k) (c - k)) w) ∧ ElemsAt w0 B r' (n - k) (fun j => E (k + j)) ∧ (r' = none → n - k = 0) := by
  obtain ⟨i, hi, hs⟩ := Option.map_eq_some_iff.1 Try.info43
  have he : Try.prog.elem 22 = 43 := by simp [Program.elem, Try.underlying22]
  have key : ∀ w, (Instr.slice 22 (.slice r n c) (some (.int .i64 (k : Int))) none none).run Try.prog w = .ok (sliced r k n c 3) w := fun w => by
    rw [run_slice_l w 22 r n c (by rw [he]; exact Try.underlying22) .i64 k (by omega) (by omega), he]
    simp [sizeOf, typeInfo, hi, hs, Result.andThen]
  cases r with
  | none =>
    obtain rfl := hr rfl
    refine ⟨none, fun w => ?_, ⟨fun h => absurd h (by omega), fun j hj => absurd hj (by omega)⟩, fun _ => by omega⟩
    rw [key w]; simp [sliced]
  | some a =>
    refine ⟨some (if c = k then a else a.add (k * 3)), fun w => ?_, ⟨fun h => ?_, fun j hj => hA.2 (k + j) (by omega)⟩, fun h => by cases h⟩
    · rw [key w]; simp only [sliced]; split <;> simp [*]
    · obtain ⟨b, off, e, hb, hcell⟩ := hA.1 (by omega)
      cases e
      have hne : ¬ c = k := by omega
      refine ⟨b, off + k * 3, by rw [if_neg hne, addr_add], hb, fun j hj => ?_⟩
      have h := hcell (k + j) (by omega)
      have e : off + (k + j) * 3 = off + k * 3 + j * 3 := by omega
      rw [e] at h
      exact h

/-- the head up to k -/
theorem slice_to (r : Option Addr) (n c k : Nat) (E : Nat → EV) (w0 : World) (B : Nat) (hk : k ≤ n) (hc : n ≤ c) (hA : ElemsAt w0 B r n E) (hr : r = none → n = 0) :
    ∃ r', (∀ w, (Instr.slice 22 (.slice r n c) none (some (.int .i64 (k : Int))) none).run Try.prog w = .ok (.slice r' k c) w) ∧ ElemsAt w0 B r' k E ∧ (r' = none → k = 0) := by
  obtain ⟨i, hi, hs⟩ := Option.map_eq_some_iff.1 Try.info43
  have he : Try.prog.elem 22 = 43 := by simp [Program.elem, Try.underlying22]
  have key : ∀ w, (Instr.slice 22 (.slice r n c) none (some (.int .i64 (k : Int))) none).run Try.prog w = .ok (sliced r 0 k c 3) w := fun w => by
    rw [run_slice_h w 22 r n c (by rw [he]; exact Try.underlying22) .i64 k (by omega) (by omega), he]
    simp [sizeOf, typeInfo, hi, hs, Result.andThen]
  cases r with
  | none =>
    obtain rfl := hr rfl
    refine ⟨none, fun w => ?_, ⟨fun h => absurd h (by omega), fun j hj => absurd hj (by omega)⟩, fun _ => by omega⟩
    rw [key w]; simp [sliced]
  | some a =>
    refine ⟨some (if c = 0 then a else a.add (0 * 3)), fun w => ?_, ⟨fun h => ?_, fun j hj => hA.2 j (by omega)⟩, fun h => by cases h⟩
    · rw [key w]; simp only [sliced]; split <;> simp [*]
    · obtain ⟨b, off, e, hb, hcell⟩ := hA.1 (by omega)
      cases e
      have hne : ¬ c = 0 := by omega
      exact ⟨b, off, by rw [if_neg hne, addr_add]; rfl, hb, fun j hj => hcell j (by omega)⟩

theorem elems_nil {w : World} {B n : Nat} {r : Option Addr} {E : Nat → EV} (h : ElemsAt w B r n E) (e : r = none) : n = 0 := by
  by_cases h0 : 0 < n
  · obtain ⟨b, off, e', _⟩ := h.1 h0
    rw [e] at e'
    cases e'
  · omega

theorem paths_ok {w : World} {B n : Nat} {r : Option Addr} {P : Nat → PV} (hs : PathsSmall n P) (h : PathsAt w B r n P) : PathsOk n P :=
  ⟨fun j hj => Nat.le_trans (hs.2 j hj).1 (by omega), fun j hj e => elems_nil (h.2 j hj) e, fun j hj i hi => (hs.2 j hj).2 i hi⟩

theorem zrow (w : World) : (w.alloc (.cells #[.string ⟨#[]⟩, .slice none 0 0] 28)).rowIs w.heap.size 28 2 zpath := by
  have h := World.rowIs_alloc w #[.string ⟨#[]⟩, .slice none 0 0] 28 zpath (fun i hi => by
    match i, hi with
    | 0, _ => rfl
    | 1, _ => rfl)
  simpa using h

/-- behind the third statement: a path variable at H that holds the joined path -/
def Joined (w9 : World) (o : ByteArray) (N : Nat) (G : Nat → EV) (p : Value) (wx : World) : Prop := ∃ H q c, p = .pointer (some ⟨H, 0, none⟩) ∧ wx.cell? ⟨H, 0, none⟩ = some (.string o) ∧ wx.cell? ⟨H, 1, none⟩ = some (.slice q N c) ∧ TElems wx wx.heap.size q N G ∧ Below w9.heap.size w9 wx

theorem cat_cat (k n : Nat) (hk : k ≤ n) (E F : Nat → EV) (j : Nat) : cat k E (cat (n - k) (fun j => E (k + j)) F) j = cat n E F j := by
  unfold cat
  by_cases h1 : j < k
  · have h2 : j < n := by omega
    simp only [h1, h2, if_true]
  · by_cases h2 : j < n
    · have h3 : j - k < n - k := by omega
      have h4 : k + (j - k) = j := by omega
      simp only [h1, h2, h3, h4, if_true, if_false]
    · have h3 : ¬ j - k < n - k := by omega
      have h4 : j - k - (n - k) = j - n := by omega
      simp only [h1, h2, h3, h4, if_false]

theorem joined1 {w9 wb : World} {o : ByteArray} {q : Option Addr} {k n el c : Nat} {E F : Nat → EV} (hk : k ≤ n) (hB : Below w9.heap.size w9 wb) (hT : TElems wb wb.heap.size q (k + (n - k + el)) (cat k E (cat (n - k) (fun j => E (k + j)) F))) :
    Joined w9 o (n + el) (cat n E F) (.pointer (some ⟨wb.heap.size, 0, none⟩)) (wb.alloc (.cells #[.string o, .slice q (k + (n - k + el)) c] 28)) := by
  have e : k + (n - k + el) = n + el := by omega
  have b : Below wb.heap.size wb (wb.alloc (.cells #[.string o, .slice q (k + (n - k + el)) c] 28)) := (Below.refl _ _).alloc (Nat.le_refl _) _
  refine ⟨_, q, c, rfl, by simp [go_sem], by simp [go_sem, e], ?_, hB.trans (b.mono hB.size)⟩
  exact (hT.later b b.size).congr e (fun j _ => cat_cat k n hk E F j)

theorem joined2 {w9 wb : World} {o : ByteArray} {q : Option Addr} {k n el c H : Nat} {E F : Nat → EV} (hk : k ≤ n) (hB : Below w9.heap.size w9 wb) (hT : TElems wb wb.heap.size q (k + (n - k + el)) (cat k E (cat (n - k) (fun j => E (k + j)) F))) (hr : wb.rowIs H 28 2 zpath) (hH : w9.heap.size ≤ H) :
    Joined w9 o (n + el) (cat n E F) (.pointer (some ⟨H, 0, none⟩)) ((wb.setCell ⟨H, 0, none⟩ (.string o)).setCell ⟨H, 1, none⟩ (.slice q (k + (n - k + el)) c)) := by
  have e : k + (n - k + el) = n + el := by omega
  have hs := (hr.set 0 (.string o)).set 1 (.slice q (k + (n - k + el)) c)
  refine ⟨H, q, c, rfl, by simpa using hs.cell (i := 0) (by omega), by simpa [e] using hs.cell (i := 1) (by omega), ?_, (hB.setCell (p := ⟨H, 0, none⟩) hH _).setCell (p := ⟨H, 1, none⟩) hH _⟩
  have h := (hT.laid hr (.string o) (.slice q (k + (n - k + el)) c)).congr e (fun j _ => cat_cat k n hk E F j)
  simpa using h

set_option maxHeartbeats 1000000 in
theorem law (r1 r2 : Option Addr) (n1 c1 n2 c2 : Nat) (i k : Nat) (E : Nat → EV) (P : Nat → PV) (w : World) (hc : n1 ≤ c1) (hi : i < n2) (hk : k ≤ n1) (hA : ElemsAt w w.heap.size r1 n1 E) (hP : PathsAt w w.heap.size r2 n2 P) (hB : Calls Try.prog 5 #[.slice r1 n1 c1, .slice r2 n2 c2, .int .i64 (i : Int), .int .i64 (k : Int)] w (AnyB w))
    (hS : Calls Try.prog 6 #[.slice r1 n1 c1, .slice r2 n2 c2] w (SizeIn (ElemsSmall n1 E ∧ PathsSmall n2 P) 0 w)) :
    Calls Try.prog 3 #[.slice r1 n1 c1, .slice r2 n2 c2, .int .i64 (i : Int), .int .i64 (k : Int)] w fun e w' => e = .returned (.bool true) ∧ Below w.heap.size w w' := by
  obtain ⟨rf, hsf, hAf, hnf⟩ := slice_from r1 n1 c1 k E w w.heap.size hk hc hA (elems_nil hA)
  obtain ⟨rt, hst, hAt, hnt⟩ := slice_to r1 n1 c1 k E w w.heap.size hk hc hA (elems_nil hA)
  have HAF := hide hAf
  have HAT := hide hAt
  have HA := hide hA
  have HP := hide hP
  clear hA hP hAf hAt
  have d1 : decide (n2 ≤ i) = false := by simp; omega
  have d2 : decide (n1 < k) = false := by simp; omega
  have d3 : decide ((i : Int) < 0) = false := by simp
  have d4 : decide ((k : Int) < 0) = false := by simp
  go_enter Try.func3, Try.ntmps3
  go_wp2_with (first | (go_at_call 5; refine hB.mono ?_; rintro e w1 ⟨bo, rfl, rfl⟩))
  · go_ret
    exact ⟨rfl, Below.refl _ _⟩
  clear hB
  go_wp2_with (first | (go_at_call 6; refine hS.mono ?_; rintro e w1 ⟨t, rfl, hb1, ht, hsm⟩; have B1 := hide hb1; have SM := hide hsm; clear hb1 hsm))
  · go_ret
    exact ⟨rfl, unhide B1⟩
  have htt' : t ≤ 1048576 := by
    rename (_ : Int) ≤ 1048576 => htt
    omega
  obtain ⟨_, hE, hPs⟩ := unhide SM htt'
  have hn1 : n1 ≤ 1048576 := Nat.le_trans hE.1 (by omega)
  have hn2 : n2 ≤ 1048576 := Nat.le_trans hPs.1 (by omega)
  have PO := hide (paths_ok hPs (unhide HP))
  have KE := hide hE.2
  have hel : (P i).el ≤ 65536 := (hPs.2 i hi).1
  have KP := hide (hPs.2 i hi).2
  have A1 := hide ((unhide HA).later (unhide B1) (unhide B1).size)
  have P1 := hide ((unhide HP).later (unhide B1) (unhide B1).size)
  clear hS SM ht htt' hE hPs
  refine (zzElems r1 n1 c1 E w1 hn1 (elems_nil (unhide A1)) (unhide KE) (unhide A1)).mono ?_
  rintro e w2 ⟨q1, rfl, hb2, ht2⟩
  have B2 := hide ((unhide B1).trans (hb2.mono (unhide B1).size))
  have T2 := hide ht2
  have P2 := hide ((unhide HP).later (unhide B2) (unhide B2).size)
  clear hb2 ht2 A1 P1
  go_wp2_with fail
  refine (zzPaths r2 n2 c2 P w2 i hi hn2 (unhide PO) (unhide P2)).mono ?_
  rintro e w3 ⟨q2, rfl, hb3, ht3⟩
  have B3 := hide ((unhide B2).trans (hb3.mono (unhide B2).size))
  have T3 := hide ((unhide T2).later hb3 hb3.size)
  have TP3 := hide ht3
  clear hb3 ht3 T2 P2
  go_wp2_with fail
  refine (at_i q1 q2 n1 n2 i E (P i) w3 hi hn1 (by omega) (unhide T3) (unhide TP3)).mono ?_
  rintro e w4 ⟨q3, cap3, rfl, hb4, ht4⟩
  have B4 := hide ((unhide B3).trans (hb4.mono (unhide B3).size))
  have T4 := hide ht4
  clear hb4 ht4 T3 TP3
  go_wp2_with fail
  have HY := hide ((rfl : P i = P i))
  have b5 : Below w4.heap.size w4 (w4.alloc (.cells #[.string (P i).o, .slice q3 (n1 + (P i).el) cap3] 28)) := (Below.refl _ _).alloc (Nat.le_refl _) _
  have x0 : (w4.alloc (.cells #[.string (P i).o, .slice q3 (n1 + (P i).el) cap3] 28)).cell? ⟨w4.heap.size, 0, none⟩ = some (.string (P i).o) := by simp [go_sem]
  have x1 : (w4.alloc (.cells #[.string (P i).o, .slice q3 (n1 + (P i).el) cap3] 28)).cell? ⟨w4.heap.size, 1, none⟩ = some (.slice q3 (n1 + (P i).el) cap3) := by simp [go_sem]
  have B5 := hide ((unhide B4).trans (b5.mono (unhide B4).size))
  have T5 := hide ((unhide T4).later b5 b5.size)
  have X0 := hide x0
  have X1 := hide x1
  clear b5 T4 x0 x1
  generalize w4.alloc (.cells #[.string (P i).o, .slice q3 (n1 + (P i).el) cap3] 28) = w5 at *
  generalize hW4 : w4.heap.size = W4 at *
  have F5 := hide ((unhide HAF).later (unhide B5) (unhide B5).size)
  have P5 := hide ((unhide HP).later (unhide B5) (unhide B5).size)
  refine (zzElems rf (n1 - k) (c1 - k) (fun j => E (k + j)) w5 (by omega) (elems_nil (unhide F5)) (fun j hj => unhide KE (k + j) (by omega)) (unhide F5)).mono ?_
  rintro e w6 ⟨q4, rfl, hb6, ht6⟩
  have B6 := hide ((unhide B5).trans (hb6.mono (unhide B5).size))
  have T6 := hide ht6
  have P6 := hide ((unhide P5).later hb6 hb6.size)
  have X06 := hide (cell_later hb6 (unhide X0))
  have X16 := hide (cell_later hb6 (unhide X1))
  have V6 := hide ((unhide T5).later hb6 hb6.size)
  clear hb6 ht6 P5 T5 X0 X1 F5
  go_wp2_with fail
  refine (zzPaths r2 n2 c2 P w6 i hi hn2 (unhide PO) (unhide P6)).mono ?_
  rintro e w7 ⟨q5, rfl, hb7, ht7⟩
  have B7 := hide ((unhide B6).trans (hb7.mono (unhide B6).size))
  have T7 := hide ((unhide T6).later hb7 hb7.size)
  have TP7 := hide ht7
  have X07 := hide (cell_later hb7 (unhide X06))
  have X17 := hide (cell_later hb7 (unhide X16))
  have V7 := hide ((unhide V6).later hb7 hb7.size)
  clear hb7 ht7 P6 T6 X06 X16 V6
  go_wp2_with fail
  refine (at_i q4 q5 (n1 - k) n2 i (fun j => E (k + j)) (P i) w7 hi (by omega) (by omega) (unhide T7) (unhide TP7)).mono ?_
  rintro e w8 ⟨q6, cap6, rfl, hb8, ht8⟩
  have B8 := hide ((unhide B7).trans (hb8.mono (unhide B7).size))
  have T8 := hide ht8
  have X08 := hide (cell_later hb8 (unhide X07))
  have X18 := hide (cell_later hb8 (unhide X17))
  have V8 := hide ((unhide V7).later hb8 hb8.size)
  clear hb8 ht8 T7 TP7 X07 X17 V7
  go_wp2_with fail
  have b9 : Below w8.heap.size w8 (w8.alloc (.cells #[.string (P i).o, .slice q6 (n1 - k + (P i).el) cap6] 28)) := (Below.refl _ _).alloc (Nat.le_refl _) _
  have y0 : (w8.alloc (.cells #[.string (P i).o, .slice q6 (n1 - k + (P i).el) cap6] 28)).cell? ⟨w8.heap.size, 0, none⟩ = some (.string (P i).o) := by simp [go_sem]
  have y1 : (w8.alloc (.cells #[.string (P i).o, .slice q6 (n1 - k + (P i).el) cap6] 28)).cell? ⟨w8.heap.size, 1, none⟩ = some (.slice q6 (n1 - k + (P i).el) cap6) := by simp [go_sem]
  have B9 := hide ((unhide B8).trans (b9.mono (unhide B8).size))
  have T9 := hide ((unhide T8).later b9 b9.size)
  have V9 := hide ((unhide V8).later b9 b9.size)
  have X09 := hide (cell_later b9 (unhide X08))
  have X19 := hide (cell_later b9 (unhide X18))
  clear b9 T8 V8 X08 X18
  generalize w8.alloc (.cells #[.string (P i).o, .slice q6 (n1 - k + (P i).el) cap6] 28) = w9 at *
  generalize hW8 : w8.heap.size = W8 at *
  have z1 := World.new_ne w9 _ y0
  have z2 := World.new_ne w9 _ y1
  have G9 : Hid (ElemsAt w9.drew w9.drew.heap.size rt k E) := (unhide HAT).later (unhide B9).drew (unhide B9).size
  have hW : W8 < w9.heap.size := World.block_lt_of_cell? _ _ y0
  have T9d : Hid (TElems w9.drew w9.drew.heap.size q6 (n1 - k + (P i).el) (cat (n1 - k) (fun j => E (k + j)) (P i).E)) := (unhide T9).later (Below.refl _ _).drew (by simp)
  go_cut [11] from 54 to 59 (Joined w9 (P i).o (n1 + (P i).el) (cat n1 E (P i).E))
  case first =>
    go_region_held3 (fun w' => w'.cell? ⟨W8, 0, none⟩ = some (.string (P i).o) ∧ w'.cell? ⟨W8, 1, none⟩ = some (.slice q6 (n1 - k + (P i).el) cap6)) (go_keep)
      (first | (go_at_call 7; refine (zzElems rt k c1 E _ (by omega) hnt (fun j hj => unhide KE j (by omega)) (by first | exact unhide G9 | exact (unhide G9).later ((Below.refl _ _).alloc (Nat.le_refl _) _) (by simp))).mono ?_; rintro e wa ⟨q7, rfl, hba, hta⟩; have TA : Hid (TElems wa wa.heap.size q6 (n1 - k + (P i).el) (cat (n1 - k) (fun j => E (k + j)) (P i).E)) := (by first | exact (unhide T9d).later hba hba.size | exact ((unhide T9d).later ((Below.refl _ _).alloc (Nat.le_refl _) _) (by simp)).later hba hba.size); have BA : Hid (Below w9.heap.size w9 wa) := (by first | exact (Below.refl _ _).drew.trans (hba.mono (by simp)) | exact ((Below.refl _ _).drew.alloc (by simp) _).trans (hba.mono (by simp))); have y0a := ((unhide BA).cell (p := ⟨W8, 0, none⟩) hW).trans y0; have y1a := ((unhide BA).cell (p := ⟨W8, 1, none⟩) hW).trans y1; have z5 := World.new_ne wa _ y0a; have z6 := World.new_ne wa _ y1a; try (have RZa : Hid (wa.rowIs w9.heap.size 28 2 zpath) := (by first | exact rowIs_below (zrow _) hba (by simp) | exact rowIs_below (zrow _).drew hba (by simp))); try (have sa0 := (unhide RZa).cell (i := 0) (by omega); have sa1 := (unhide RZa).cell (i := 1) (by omega))) | (go_at_call 10; refine (below (P i).o q7 q6 k (n1 - k + (P i).el) cap6 E (cat (n1 - k) (fun j => E (k + j)) (P i).E) _ (by omega) (by omega) (by first | exact hta | exact hta.later ((Below.refl _ _).alloc (Nat.le_refl _) _) (by simp)) (by first | exact unhide TA | exact (unhide TA).later ((Below.refl _ _).alloc (Nat.le_refl _) _) (by simp))).mono ?_; rintro e wb ⟨q8, cap8, rfl, hbb, htb⟩; have BB : Hid (Below w9.heap.size w9 wb) := (by first | exact (unhide BA).trans (hbb.mono (unhide BA).size) | exact ((unhide BA).alloc (unhide BA).size _).trans (hbb.mono (by simpa using Nat.le_succ_of_le (unhide BA).size))); have TB := hide htb; have y0b := ((unhide BB).cell (p := ⟨W8, 0, none⟩) hW).trans y0; have y1b := ((unhide BB).cell (p := ⟨W8, 1, none⟩) hW).trans y1; have z3 := World.new_ne wb _ y0b; have z4 := World.new_ne wb _ y1b; (first | (have RZb : Hid (wb.rowIs wa.heap.size 28 2 zpath) := (by exact rowIs_below (zrow _) hbb (by simp)); have sb0 := (unhide RZb).cell (i := 0) (by omega); have sb1 := (unhide RZb).cell (i := 1) (by omega); have fb0 := (unhide RZb).frozen 0; have fb1 := (unhide RZb).frozen 1) | (have RZc : Hid (wb.rowIs w9.heap.size 28 2 zpath) := (by exact rowIs_below (unhide RZa) hbb (unhide RZa).lt); have sc0 := (unhide RZc).cell (i := 0) (by omega); have sc1 := (unhide RZc).cell (i := 1) (by omega); have fc0 := (unhide RZc).frozen 0; have fc1 := (unhide RZc).frozen 1) | (have hh : Below wa.heap.size wa wb := (by exact hbb))); clear hbb htb))
    · go_wp2_with fail
      go_meet
      case rel => exact joined1 hk (unhide BB) (unhide TB)
    · go_wp2_with fail
      go_meet
      case rel => exact joined2 hk (unhide BB) (unhide TB) (unhide RZb) (unhide BA).size
    · go_wp2_with fail
      go_meet
      case rel => exact joined2 hk (unhide BB) (unhide TB) (unhide RZc) (Nat.le_refl _)
  case rest =>
    obtain ⟨H, q, c, rfl, j0, j1, jT, jB⟩ := hcut
    have BC := hide ((unhide B9).trans (jB.mono (unhide B9).size))
    have v0 := cell_later jB (unhide X09)
    have v1 := cell_later jB (unhide X19)
    have VC : Hid (TElems wc.drew wc.drew.heap.size q3 (n1 + (P i).el) (cat n1 E (P i).E)) := ((unhide V9).later jB jB.size).later (Below.refl _ _).drew (by simp)
    have JC : Hid (TElems wc.drew wc.drew.heap.size q (n1 + (P i).el) (cat n1 E (P i).E)) := jT.later (Below.refl _ _).drew (by simp)
    have AC : Hid (ElemsAt wc.drew wc.drew.heap.size r1 n1 E) := ((unhide HA).later (unhide BC) (unhide BC).size).later (Below.refl _ _).drew (by simp)
    have PC := (unhide HP).later (unhide BC) (unhide BC).size
    have EC : Hid (ElemsAt wc.drew wc.drew.heap.size (P i).er (P i).el (P i).E) := (PC.2 i hi).later (Below.refl _ _).drew (by simp)
    obtain ⟨pb, po, e2, hpb, hpc⟩ := PC.1 (by omega)
    subst e2
    obtain ⟨g0, g1⟩ := hpc i hi
    clear hpc jB jT X09 X19 V9 T9 T9d G9 y0 y1 z1 z2 hW HAF HAT hsf hst
    have i1 : (0 : Int) ≤ (i : Int) := by omega
    have i2 : (i : Int) < (n2 : Int) := by omega
    have KF := hide (fun j hj => unhide KP j hj)
    have hel2 : (P i).el ≤ 1048576 := by omega
    generalize (P i).o = yo at *
    generalize (P i).er = er at *
    generalize (P i).el = el at *
    generalize (P i).ec = ec at *
    generalize (P i).E = F at *
    go_wp2_with fail
    go_region_held3 (fun w' => w'.cell? ⟨W4, 0, none⟩ = some (.string yo) ∧ w'.cell? ⟨W4, 1, none⟩ = some (.slice q3 (n1 + el) cap3) ∧ w'.cell? ⟨H, 0, none⟩ = some (.string yo) ∧ w'.cell? ⟨H, 1, none⟩ = some (.slice q (n1 + el) c) ∧ w'.cell? ⟨pb, po + i * 2, none⟩ = some (.string yo) ∧ w'.cell? ⟨pb, po + i * 2 + 1, none⟩ = some (.slice er el ec)) (go_keep)
      (first | (have hz := unhide JX; clear hz; go_at_call 11; refine (pathMatches yo q r1 er n1 el c c1 ec E F _ hn1 hel2 (unhide KE) (unhide KF) (by exact unhide JX) (by exact unhide AX) (by exact unhide EX)).mono ?_; rintro e wy ⟨rfl, hby⟩; have m0 := cell_later hby (by exact k0); have m1 := cell_later hby (by exact k1); have m2 := cell_later hby (by exact k2); have m3 := cell_later hby (by exact k3); have m4 := cell_later hby (by exact k4); have m5 := cell_later hby (by exact k5)) | (go_at_call 11; refine (pathMatches yo q3 r1 er n1 el cap3 c1 ec E F _ hn1 hel2 (unhide KE) (unhide KF) (by exact unhide VC) (by exact unhide AC) (by exact unhide EC)).mono ?_; rintro e wx ⟨rfl, hbx⟩; have k0 := cell_later hbx (by exact v0); have k1 := cell_later hbx (by exact v1); have k2 := cell_later hbx (by exact j0); have k3 := cell_later hbx (by exact j1); have k4 := cell_later hbx (by exact g0); have k5 := cell_later hbx (by exact g1); have JX := hide ((unhide JC).later hbx hbx.size); have AX := hide ((unhide AC).later hbx hbx.size); have EX := hide ((unhide EC).later hbx hbx.size)))
    have BX : Hid (Below w.heap.size w wx) := (unhide BC).drew.trans (hbx.mono (unhide BC).size)
    have BY : Hid (Below w.heap.size w wy) := (unhide BX).trans (hby.mono (unhide BX).size)
    go_wp2
    go_ret
    exact ⟨rfl, unhide BY⟩
end Go.Proofs.Qxb6623333a

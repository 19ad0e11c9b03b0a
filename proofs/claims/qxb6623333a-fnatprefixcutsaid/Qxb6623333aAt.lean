import Derived.Test.Qxb6623333aBelow
namespace Go.Proofs.Qxb6623333a
open Go.ChangeShapes Go.WideShapes Go.RowKit Go.Maps

/-- a Path variable as it is made -/
def zpath : Nat → Value := fun j => if j = 0 then .string ⟨#[]⟩ else .slice none 0 0

theorem telems_far {w : World} {B H n t b off : Nat} {r : Option Addr} {E : Nat → EV} (h : TElems w B r n E) (hn : 0 < n) (hr : w.rowIs H t 2 zpath) (e : r = some ⟨b, off, none⟩) : b ≠ H := by
  rintro rfl
  obtain ⟨b', off', e', _, M, hc⟩ := h hn
  rw [e] at e'
  cases e'
  obtain ⟨cs, hg, hsz, hcs⟩ := hr
  have h1 := (hc 0 hn).2.1
  rw [cell_of_row _ _ _ _ _ _ hg] at h1
  have hlt := (Array.getElem?_eq_some_iff.1 h1).1
  have h2 := hcs (off + 0 * 2 + 1) (by omega)
  rw [h1] at h2
  simp [zpath] at h2

/-- A PATH LAID INTO A PATH VARIABLE changes no elements. -/
theorem TElems.laid {w : World} {B H n t : Nat} {r : Option Addr} {E : Nat → EV} (h : TElems w B r n E) (hr : w.rowIs H t 2 zpath) (u v : Value) : TElems ((w.setCell ⟨H, 0, none⟩ u).setCell ⟨H, 1, none⟩ v) B r n E := by
  intro hn
  obtain ⟨c, off, e, hlt, M, hc⟩ := h hn
  have hne : c ≠ H := telems_far h hn hr e
  have far : ∀ o, ((w.setCell ⟨H, 0, none⟩ u).setCell ⟨H, 1, none⟩ v).cell? ⟨c, o, none⟩ = w.cell? ⟨c, o, none⟩ := fun o => by
    rw [World.cell?_setCell_far _ _ _ _ (fun h => hne h.symm), World.cell?_setCell_far _ _ _ _ (fun h => hne h.symm)]
  refine ⟨c, off, e, hlt, M, fun j hj => ?_⟩
  obtain ⟨h0, h1, h2⟩ := hc j hj
  refine ⟨(far _).trans h0, (far _).trans h1, ?_⟩
  rcases h2 with h2 | ⟨h0, d, e, hlt, hown⟩
  · exact .inl h2
  · have hnd := map_not_row hown hr
    exact .inr ⟨h0, d, e, hlt, (hown.setCell hnd _).setCell hnd _⟩

/-- a path is answered -/
def PathOut (w : World) (o : ByteArray) (n : Nat) (E : Nat → EV) (e : Ending) (w' : World) : Prop := ∃ r' cap, e = .returned (.agg #[.string o, .slice r' n cap]) ∧ Below w.heap.size w w' ∧ TElems w' w'.heap.size r' n E

set_option maxHeartbeats 1000000 in
/-- At(i): path i below the head. -/
theorem at_i (r r2 : Option Addr) (n n2 i : Nat) (E : Nat → EV) (y : PV) (w : World) (hi : i < n2) (hn : n ≤ 1048576) (hm : y.el ≤ 1048576) (h1 : TElems w w.heap.size r n E) (h2 : TPath w r2 i y) :
    Calls Try.prog 9 #[.agg #[.slice r n n, .slice r2 n2 n2], .int .i64 (i : Int)] w (PathOut w y.o (n + y.el) (cat n E y.E)) := by
  obtain ⟨b, q, rfl, hb, hc0, hc1, hT⟩ := h2
  have b0 : Below w.heap.size w ((w.alloc (.cells #[.slice r n n, .slice (some ⟨b, 0, none⟩) n2 n2] 33)).alloc (.cells #[.string ⟨#[]⟩, .slice none 0 0] 28)) := ((Below.refl _ _).alloc (Nat.le_refl _) _).alloc (by simp) _
  have p0 : ((w.alloc (.cells #[.slice r n n, .slice (some ⟨b, 0, none⟩) n2 n2] 33)).alloc (.cells #[.string ⟨#[]⟩, .slice none 0 0] 28)).cell? ⟨w.heap.size, 0, none⟩ = some (.slice r n n) := by simp [go_sem]
  have p1 : ((w.alloc (.cells #[.slice r n n, .slice (some ⟨b, 0, none⟩) n2 n2] 33)).alloc (.cells #[.string ⟨#[]⟩, .slice none 0 0] 28)).cell? ⟨w.heap.size, 1, none⟩ = some (.slice (some ⟨b, 0, none⟩) n2 n2) := by simp [go_sem]
  have r0 : ((w.alloc (.cells #[.slice r n n, .slice (some ⟨b, 0, none⟩) n2 n2] 33)).alloc (.cells #[.string ⟨#[]⟩, .slice none 0 0] 28)).cell? ⟨w.heap.size + 1, 0, none⟩ = some (.string ⟨#[]⟩) := by simp [go_sem]
  have r1 : ((w.alloc (.cells #[.slice r n n, .slice (some ⟨b, 0, none⟩) n2 n2] 33)).alloc (.cells #[.string ⟨#[]⟩, .slice none 0 0] 28)).cell? ⟨w.heap.size + 1, 1, none⟩ = some (.slice none 0 0) := by simp [go_sem]
  have w0r : ((w.alloc (.cells #[.slice r n n, .slice (some ⟨b, 0, none⟩) n2 n2] 33)).alloc (.cells #[.string ⟨#[]⟩, .slice none 0 0] 28)).rowIs (w.heap.size + 1) 28 2 zpath := by
    have h := World.rowIs_alloc (w.alloc (.cells #[.slice r n n, .slice (some ⟨b, 0, none⟩) n2 n2] 33)) #[.string ⟨#[]⟩, .slice none 0 0] 28 zpath (fun i hi => by
      match i, hi with
      | 0, _ => rfl
      | 1, _ => rfl)
    simpa using h
  have RR := hide w0r
  have Z0 : Hid (((w.alloc (.cells #[.slice r n n, .slice (some ⟨b, 0, none⟩) n2 n2] 33)).alloc (.cells #[.string ⟨#[]⟩, .slice none 0 0] 28)).heap.size = w.heap.size + 2) := by simp [Hid]
  have g0 := (b0.cell (p := ⟨b, i * 2, none⟩) hb).trans hc0
  have g1 := (b0.cell (p := ⟨b, i * 2 + 1, none⟩) hb).trans hc1
  have T1 := hide (h1.later b0.drew b0.size)
  have T2 := hide (hT.later b0.drew b0.size)
  have B0 := hide b0
  have i1 : (0 : Int) ≤ (i : Int) := by omega
  have i2 : (i : Int) < (n2 : Int) := by omega
  clear b0 h1 hT w0r hc0 hc1
  go_enter Try.func9, Try.ntmps9
  go_wp2
  generalize (w.alloc (.cells #[.slice r n n, .slice (some ⟨b, 0, none⟩) n2 n2] 33)).alloc (.cells #[.string ⟨#[]⟩, .slice none 0 0] 28) = w0 at *
  obtain ⟨yo, er, el, ec, F⟩ := y
  simp only at g0 g1
  have zz := unhide Z0
  have n1 : ¬ b = w.heap.size + 1 := by omega
  have n2' : ¬ w.heap.size + 1 = b := by omega
  have zd : w.heap.size + 1 < w0.drew.heap.size := by simp [zz]
  go_region_held3 (fun w' => w'.cell? ⟨w.heap.size, 0, none⟩ = some (.slice r n n) ∧ w'.cell? ⟨w.heap.size, 1, none⟩ = some (.slice (some ⟨b, 0, none⟩) n2 n2) ∧ w'.cell? ⟨b, i * 2, none⟩ = some (.string yo) ∧ w'.cell? ⟨b, i * 2 + 1, none⟩ = some (.slice q el el)) (go_keep)
    (first | (go_at_call 10; refine (below yo r q n el el E F _ hn (by exact Nat.le_trans hm (by omega)) (by exact unhide T1) (by exact unhide T2)).mono ?_; rintro e w1 ⟨r', cap, rfl, hb1, ht1⟩; have q0 := cell_later hb1 (by exact p0); have q1 := cell_later hb1 (by exact p1); have q2 := cell_later hb1 (by exact g0); have q3 := cell_later hb1 (by exact g1); have RR1 := hide (rowIs_below (unhide RR).drew hb1 zd); have s0 := (unhide RR1).cell (i := 0) (by omega); have s1 := (unhide RR1).cell (i := 1) (by omega); have f0 := (unhide RR1).frozen 0; have f1 := (unhide RR1).frozen 1))
  have BF : Hid (Below w.heap.size w ((w1.setCell ⟨w.heap.size + 1, 0, none⟩ (.string yo)).setCell ⟨w.heap.size + 1, 1, none⟩ (.slice r' (n + el) cap))) := (((unhide B0).drew.trans (hb1.mono (by simp [zz]))).setCell (p := ⟨w.heap.size + 1, 0, none⟩) (Nat.le_succ _) _).setCell (p := ⟨w.heap.size + 1, 1, none⟩) (Nat.le_succ _) _
  have TF : Hid (TElems ((w1.setCell ⟨w.heap.size + 1, 0, none⟩ (.string yo)).setCell ⟨w.heap.size + 1, 1, none⟩ (.slice r' (n + el) cap)) ((w1.setCell ⟨w.heap.size + 1, 0, none⟩ (.string yo)).setCell ⟨w.heap.size + 1, 1, none⟩ (.slice r' (n + el) cap)).heap.size r' (n + el) (cat n E F)) := by
    have h := ht1.laid (unhide RR1) (.string yo) (.slice r' (n + el) cap)
    simpa [Hid] using h
  go_wp2
  refine bodyPost_ret (v := .agg #[.string yo, .slice r' (n + el) cap]) (by simp [results, Try.results9, go_sem, s0, s1]) rfl ?_
  exact ⟨r', cap, rfl, unhide BF, unhide TF⟩
end Go.Proofs.Qxb6623333a

import Derived.Test.Qxb6619464aPosting
namespace Go.Proofs.Qxb6619464a
open Go.ChangeShapes Go.WideShapes Go.RowKit

theorem zz18 (a : Option Addr) (n c : Nat) (l : Value) (k : Int) (w : World) (hn : n ≤ 9223372036854775807) :
    Calls Try.prog 18 #[.slice a n c, l, .int .i64 k] w fun e w' => e = .returned (.bool (decide (n ≤ 1048576))) ∧ w = w' := by
  by_cases h : n ≤ 1048576
  · go_enter Try.func18, Try.ntmps18
    go_wp2
    go_ret
    exact ⟨by simp [h], rfl⟩
  · go_enter Try.func18, Try.ntmps18
    go_wp2
    go_ret
    exact ⟨by simp [h], rfl⟩

/-! ### THE PLAIN LAW -/
theorem incB_split (f : Nat → Int) (p : Nat) : ∀ r, incB f (p + 1 + (r + 1)) = (incB f (p + 1) && decide (f p < f (p + 1)) && incB (fun j => f (p + 1 + j)) (r + 1))
  | 0 => by simp [incB]
  | r + 1 => by
    have ih := incB_split f p r
    have e1 : incB f (p + 1 + (r + 1 + 1)) = (incB f (p + 1 + (r + 1)) && decide (f (p + 1 + r) < f (p + 1 + r + 1))) := rfl
    have e2 : incB (fun j => f (p + 1 + j)) (r + 1 + 1) = (incB (fun j => f (p + 1 + j)) (r + 1) && decide (f (p + 1 + r) < f (p + 1 + (r + 1)))) := rfl
    rw [e1, e2, ih, ← Bool.and_assoc]
    rfl

theorem dio_split (f : Nat → Int) (p m : Nat) (h : p < m) (L : Option Int) :
    dioB f (m + 1) L = (dioB f (p + 1) (some (f p)) && decide (f p < f (p + 1)) && dioB (fun j => f (p + 1 + j)) (m - p) L) := by
  obtain ⟨r, rfl⟩ : ∃ r, m = p + 1 + r := ⟨m - (p + 1), by omega⟩
  have e : p + 1 + r - p = r + 1 := by omega
  rw [e]
  have e0 : dioB f (p + 1 + r + 1) L = (incB f (p + 1 + (r + 1)) && (L == some (f (p + 1 + r)))) := rfl
  have e1 : dioB f (p + 1) (some (f p)) = (incB f (p + 1) && (some (f p) == some (f p))) := rfl
  have e2 : dioB (fun j => f (p + 1 + j)) (r + 1) L = (incB (fun j => f (p + 1 + j)) (r + 1) && (L == some (f (p + 1 + r)))) := rfl
  rw [e0, e1, e2, incB_split]
  simp [Bool.and_assoc]

theorem dio_one (f : Nat → Int) (p : Nat) (L : Option Int) : dioB (fun j => f (p + j)) 1 L = (L == some (f p)) := by simp [dioB, incB]

theorem full_row {w : World} {b n : Nat} {f : Nat → Int} (h : w.rowIs b 38 n (dayCells f n)) : w.rowIs b 38 n (fun j => .int .i32 (f j)) :=
  h.congr fun i hi => by simp [dayCells, hi]

set_option maxHeartbeats 400000 in
theorem splits_nil (b off c p m : Nat) (f : Nat → Int) (w : World) (hpm : p < m) (hm : m + 1 ≤ 65536) (hb : b < w.heap.size)
    (hc : ∀ j, j < m + 1 → w.cell? ⟨b, off + j, none⟩ = some (.int .i32 (f j))) :
    Calls Try.prog 7 #[.slice (some ⟨b, off, none⟩) (m + 1) c, .pointer none, .int .i64 ((p : Int) + 1)] w fun e w' => e = .returned (.bool true) ∧ Below w.heap.size w w' := by
  have hmk := run_make_row' (P := Try.prog) 54 38 (.int .i32 0) 4 Try.underlying54 Try.info38 rfl .i64 .i64 (m + 1) (by omega) (by omega) w
  have ec : ((m + 1 : Nat) : Int) = (m : Int) + 1 := by omega
  rw [ec] at hmk
  clear ec
  have HC := hide hc
  clear hc
  have hz18 : ∀ (l : Value) (k : Int) (x : World), Calls Try.prog 18 #[.slice (some ⟨b, off, none⟩) (m + 1) c, l, .int .i64 k] x fun e w' => e = .returned (.bool true) ∧ x = w' := fun l k x => by
    have h := zz18 (some ⟨b, off, none⟩) (m + 1) c l k x (by omega)
    rwa [decide_eq_true (by omega)] at h
  have HZ18 := hide hz18
  clear hz18
  have hd2 : decide ((65536 : Int) < (m : Int) + 1) = false := by simp; omega
  have hd3 : decide ((p : Int) + 1 < 1) = false := by simp; omega
  have hd4 : decide ((m : Int) + 1 ≤ (p : Int) + 1) = false := by simp; omega
  have r0 := World.rowIs_made w (.int .i32 0) (m + 1) 38
  have b0 : Below w.heap.size w (w.alloc (.cells (madeCells #[.int .i32 0] (m + 1)) 38)) := (Below.refl _ _).alloc (Nat.le_refl _) _
  have R0 := hide r0
  have B0 := hide b0
  clear r0 b0
  go_enter Try.func7, Try.ntmps7
  go_wp2_with (go_at_call 18; refine (unhide HZ18 _ _ _).mono ?_; rintro e w' ⟨rfl, rfl⟩)
  go_loopw [9] (fun i wr => ∃ k : Nat, k ≤ m + 1 ∧ i = .int .i64 k ∧ wr.rowIs w.heap.size 38 (m + 1) (dayCells f k) ∧ Below w.heap.size w wr) (fun i _ => m + 1 - (intOf i).toNat)
  case atStart => exact ⟨0, Nat.zero_le _, rfl, unhide R0, unhide B0⟩
  case round =>
    obtain ⟨k, hk, rfl, hrow, hbel⟩ := hrel
    clear hmk R0 B0
    by_cases hlt : k < m + 1
    · have g0 : wr.cell? ⟨b, off + k, none⟩ = some (.int .i32 (f k)) := (hbel.cell (by exact hb)).trans (unhide HC k hlt)
      have g1 := hrow.cell (i := k) (by omega)
      have g2 := hrow.frozen k
      have hrow' := hide (dayCells_set hrow)
      have hbel' := hide (hbel.setCell (p := ⟨w.heap.size, k, none⟩) (Nat.le_refl _) (.int .i32 (f k)))
      clear hrow hbel
      go_wp2
      go_roundw
      case rel => exact ⟨k + 1, by omega, by go_num, unhide hrow', unhide hbel'⟩
      case measure => simp [intOf]; omega
    · obtain rfl : k = m + 1 := by omega
      have ROW := hide (full_row hrow)
      have BEL := hide hbel
      have O := hide (fun j (hj : j < m + 1) => (hbel.cell (p := ⟨b, off + j, none⟩) hb).trans (unhide HC j hj))
      clear hrow hbel HC
      have Z1 := hide (zz_none w.heap.size 0 (m + 1) (m + 1) f wr (by omega) (fun j hj => by rw [Nat.zero_add]; exact (unhide ROW).cell hj))
      go_wp2_with fail
      refine (unhide Z1).mono ?_
      rintro e w' ⟨rfl, q1, rfl⟩
      clear Z1
      go_wp2
      have ROW2 : Hid ((wr.drewN q1).rowIs w.heap.size 38 (m + 1) (fun j => .int .i32 (f j))) := ROW
      have BEL2 : Hid (Below w.heap.size w (wr.drewN q1)) := below_drewN (unhide BEL) _
      have O2 : Hid (∀ j, j < m + 1 → (wr.drewN q1).cell? ⟨b, off + j, none⟩ = some (.int .i32 (f j))) := O
      clear ROW BEL O
      generalize wr.drewN q1 = w2 at *
      have s1 : ∀ x, (Instr.slice 54 (.slice (some ⟨w.heap.size, 0, none⟩) (m + 1) (m + 1)) none (some (.int .i64 ((p : Int) + 1))) none).run Try.prog x = .ok (.slice (some ⟨w.heap.size, 0, none⟩) (p + 1) (m + 1)) x :=
        fun x => slice54_to w.heap.size 0 (p + 1) (m + 1) (m + 1) (by omega) x
      have s2 : ∀ x, (Instr.slice 54 (.slice (some ⟨w.heap.size, 0, none⟩) (m + 1) (m + 1)) (some (.int .i64 ((p : Int) + 1))) none none).run Try.prog x = .ok (.slice (some ⟨w.heap.size, p + 1, none⟩) (m - p) (m - p)) x :=
        fun x => by have h := slice54_from w.heap.size 0 (p + 1) (m + 1) (m + 1) (by omega) (by omega) x; rwa [Nat.zero_add, Nat.add_sub_add_right] at h
      have s3 : ∀ x, (Instr.slice 54 (.slice (some ⟨w.heap.size, 0, none⟩) (m + 1) (m + 1)) (some (.int .i64 (p : Int))) (some (.int .i64 ((p : Int) + 1))) none).run Try.prog x = .ok (.slice (some ⟨w.heap.size, p, none⟩) 1 (m + 1 - p)) x :=
        fun x => by have h := slice54_in w.heap.size 0 p (p + 1) (m + 1) (m + 1) (by omega) (by omega) (by omega) x; rwa [Nat.zero_add, Nat.add_sub_cancel_left] at h
      have s4 : ∀ x, (Instr.slice 54 (.slice (some ⟨w.heap.size, 0, none⟩) (m + 1) (m + 1)) (some (.int .i64 (m : Int))) none none).run Try.prog x = .ok (.slice (some ⟨w.heap.size, m, none⟩) 1 1) x :=
        fun x => by have h := slice54_from w.heap.size 0 m (m + 1) (m + 1) (by omega) (by omega) x; rwa [Nat.zero_add, Nat.add_sub_cancel_left] at h
      have i1 : (0 : Int) ≤ (p : Int) := by omega
      have i2 : (p : Int) < (m : Int) + 1 := by omega
      have i3 : IntKind.i64.wrap (p : Int) = (p : Int) := by rw [IntKind.wrap_i64]; omega
      have i4 : IntKind.i64.wrap (m : Int) = (m : Int) := by rw [IntKind.wrap_i64]; omega
      go_quiet ((go_at_call 17; refine Calls.quiet_of (zz_some w.heap.size 0 (p + 1) (m + 1) w.heap.size p f (f p) _ (by omega) ?_ ?_); (intro j hj; rw [Nat.zero_add]; exact (unhide ROW2).cell (by omega)); exact (unhide ROW2).cell (by omega)))
      go_wp2_with fail
      refine (zz_none w.heap.size (p + 1) (m - p) (m - p) (fun j => f (p + 1 + j)) (w2.drewN nq) (by omega) (fun j hj => (unhide ROW2).cell (by omega))).mono ?_
      rintro e w' ⟨rfl, q2, rfl⟩
      go_wp2
      have ROW3 : Hid ((w2.drewN (nq + q2)).rowIs w.heap.size 38 (m + 1) (fun j => .int .i32 (f j))) := ROW2
      have BEL3 : Hid (Below w.heap.size w (w2.drewN (nq + q2))) := below_drewN (unhide BEL2) _
      have O3 : Hid (∀ j, j < m + 1 → (w2.drewN (nq + q2)).cell? ⟨b, off + j, none⟩ = some (.int .i32 (f j))) := O2
      clear ROW2 BEL2 O2
      generalize w2.drewN (nq + q2) = w3 at *
      have law := dio_split f p m hpm Option.none
      have g0 := unhide O3 p (by omega)
      have g1 := unhide O3 (p + 1) (by omega)
      have g2 := unhide O3 m (by omega)
      clear O3
      have i5 : (p : Int) + 1 < (m : Int) + 1 := by omega
      have i6 : IntKind.i64.wrap ((p : Int) + 1) = (p : Int) + 1 := by rw [IntKind.wrap_i64]; omega
      have v1 : dioB (fun j => f (p + j)) 1 (some (f p)) = true := by rw [dio_one]; simp
      have v2 : dioB (fun j => f (m + j)) 1 Option.none = false := by rw [dio_one]; rfl
      generalize dioB f (m + 1) Option.none = A at *
      generalize dioB f (p + 1) (some (f p)) = Lf at *
      generalize dioB (fun j => f (p + 1 + j)) (m - p) Option.none = R at *
      subst law
      have cs : Lf = false ∨ (Lf = true ∧ f p < f (p + 1)) ∨ (Lf = true ∧ ¬ f p < f (p + 1)) := by cases Lf <;> simp <;> omega
      rcases cs with rfl | ⟨rfl, hlt2⟩ | ⟨rfl, hlt2⟩
      all_goals
        go_quiet (fail)
        go_wp2
        have ROW4 : Hid ((w3.drewN nq).rowIs w.heap.size 38 (m + 1) (fun j => .int .i32 (f j))) := ROW3
        have BEL4 : Hid (Below w.heap.size w (w3.drewN nq)) := below_drewN (unhide BEL3) _
        have g2' : (w3.drewN nq).cell? ⟨b, off + m, none⟩ = some (.int .i32 (f m)) := g2
        clear ROW3 BEL3 g0 g1 g2
        generalize w3.drewN nq = w4 at *
        go_quiet ((go_at_call 17; refine Calls.quiet_of (zz_some w.heap.size p 1 (m + 1 - p) w.heap.size p (fun j => f (p + j)) (f p) _ (by omega) ?_ ?_); (intro j hj; exact (unhide ROW4).cell (by omega)); exact (unhide ROW4).cell (by omega)))
        go_wp2_with fail
        refine (zz_none w.heap.size m 1 1 (fun j => f (m + j)) (w4.drewN nq) (by omega) (fun j hj => (unhide ROW4).cell (by omega))).mono ?_
        rintro e w' ⟨rfl, q3, rfl⟩
        go_wp2
        have BEL5 : Hid (Below w.heap.size w (w4.drewN (nq + q3))) := below_drewN (unhide BEL4) _
        have g3 : (w4.drewN (nq + q3)).cell? ⟨b, off + m, none⟩ = some (.int .i32 (f m)) := g2'
        clear ROW4 BEL4 g2'
        generalize w4.drewN (nq + q3) = w5 at *
        go_quiet (fail)
        go_wp2
        go_ret
        exact ⟨rfl, below_drewN (unhide BEL5) _⟩

set_option maxHeartbeats 400000 in
theorem splits_some (b off c p m lb lo : Nat) (f : Nat → Int) (L : Int) (w : World) (hpm : p < m) (hm : m + 1 ≤ 65536) (hb : b < w.heap.size)
    (hlb : lb < w.heap.size) (hL : w.cell? ⟨lb, lo, none⟩ = some (.int .i32 L))
    (hc : ∀ j, j < m + 1 → w.cell? ⟨b, off + j, none⟩ = some (.int .i32 (f j))) :
    Calls Try.prog 7 #[.slice (some ⟨b, off, none⟩) (m + 1) c, .pointer (some ⟨lb, lo, none⟩), .int .i64 ((p : Int) + 1)] w fun e w' => e = .returned (.bool true) ∧ Below w.heap.size w w' := by
  have hmk := run_make_row' (P := Try.prog) 54 38 (.int .i32 0) 4 Try.underlying54 Try.info38 rfl .i64 .i64 (m + 1) (by omega) (by omega) w
  have ec : ((m + 1 : Nat) : Int) = (m : Int) + 1 := by omega
  rw [ec] at hmk
  clear ec
  have HC := hide hc
  have HL := hide hL
  clear hc hL
  have hz18 : ∀ (l : Value) (k : Int) (x : World), Calls Try.prog 18 #[.slice (some ⟨b, off, none⟩) (m + 1) c, l, .int .i64 k] x fun e w' => e = .returned (.bool true) ∧ x = w' := fun l k x => by
    have h := zz18 (some ⟨b, off, none⟩) (m + 1) c l k x (by omega)
    rwa [decide_eq_true (by omega)] at h
  have HZ18 := hide hz18
  clear hz18
  have hd2 : decide ((65536 : Int) < (m : Int) + 1) = false := by simp; omega
  have hd3 : decide ((p : Int) + 1 < 1) = false := by simp; omega
  have hd4 : decide ((m : Int) + 1 ≤ (p : Int) + 1) = false := by simp; omega
  have r0 := World.rowIs_made w (.int .i32 0) (m + 1) 38
  have b0 : Below w.heap.size w (w.alloc (.cells (madeCells #[.int .i32 0] (m + 1)) 38)) := (Below.refl _ _).alloc (Nat.le_refl _) _
  have R0 := hide r0
  have B0 := hide b0
  clear r0 b0
  go_enter Try.func7, Try.ntmps7
  go_wp2_with (go_at_call 18; refine (unhide HZ18 _ _ _).mono ?_; rintro e w' ⟨rfl, rfl⟩)
  go_loopw [9] (fun i wr => ∃ k : Nat, k ≤ m + 1 ∧ i = .int .i64 k ∧ wr.rowIs w.heap.size 38 (m + 1) (dayCells f k) ∧ Below w.heap.size w wr) (fun i _ => m + 1 - (intOf i).toNat)
  case atStart => exact ⟨0, Nat.zero_le _, rfl, unhide R0, unhide B0⟩
  case round =>
    obtain ⟨k, hk, rfl, hrow, hbel⟩ := hrel
    clear hmk R0 B0
    by_cases hlt : k < m + 1
    · have g0 : wr.cell? ⟨b, off + k, none⟩ = some (.int .i32 (f k)) := (hbel.cell (by exact hb)).trans (unhide HC k hlt)
      have g1 := hrow.cell (i := k) (by omega)
      have g2 := hrow.frozen k
      have hrow' := hide (dayCells_set hrow)
      have hbel' := hide (hbel.setCell (p := ⟨w.heap.size, k, none⟩) (Nat.le_refl _) (.int .i32 (f k)))
      clear hrow hbel
      go_wp2
      go_roundw
      case rel => exact ⟨k + 1, by omega, by go_num, unhide hrow', unhide hbel'⟩
      case measure => simp [intOf]; omega
    · obtain rfl : k = m + 1 := by omega
      have hsz := hbel.size
      have hL0 : wr.cell? ⟨lb, lo, none⟩ = some (.int .i32 L) := (hbel.cell (by exact hlb)).trans (unhide HL)
      have ROW : Hid ((wr.alloc (.cells #[.int .i32 L] 38)).rowIs w.heap.size 38 (m + 1) (fun j => .int .i32 (f j))) := (full_row hrow).alloc _
      have BEL : Hid (Below w.heap.size w (wr.alloc (.cells #[.int .i32 L] 38))) := hbel.alloc hsz _
      have P : Hid ((wr.alloc (.cells #[.int .i32 L] 38)).cell? ⟨wr.heap.size, 0, none⟩ = some (.int .i32 L)) := by rw [World.cell?_alloc_at _ _ _ _ rfl]; rfl
      have hrow2 := (full_row hrow).lt
      clear hrow hbel
      go_wp2_with fail
      clear hL0
      have O : Hid (∀ j, j < m + 1 → (wr.alloc (.cells #[.int .i32 L] 38)).cell? ⟨b, off + j, none⟩ = some (.int .i32 (f j))) := fun j hj => ((unhide BEL).cell (by exact hb)).trans (unhide HC j hj)
      have OL : Hid ((wr.alloc (.cells #[.int .i32 L] 38)).cell? ⟨lb, lo, none⟩ = some (.int .i32 L)) := ((unhide BEL).cell (by exact hlb)).trans (unhide HL)
      clear HC HL hsz hrow2
      generalize wr.heap.size = B2 at *
      generalize wr.alloc (.cells #[.int .i32 L] 38) = w1 at *
      refine (zz_some w.heap.size 0 (m + 1) (m + 1) B2 0 f L w1 (by omega) (fun j hj => by rw [Nat.zero_add]; exact (unhide ROW).cell hj) (unhide P)).mono ?_
      rintro e w' ⟨rfl, q1, rfl⟩
      go_wp2
      have ROW2 : Hid ((w1.drewN q1).rowIs w.heap.size 38 (m + 1) (fun j => .int .i32 (f j))) := ROW
      have BEL2 : Hid (Below w.heap.size w (w1.drewN q1)) := below_drewN (unhide BEL) _
      have O2 : Hid (∀ j, j < m + 1 → (w1.drewN q1).cell? ⟨b, off + j, none⟩ = some (.int .i32 (f j))) := O
      have P2 : Hid ((w1.drewN q1).cell? ⟨B2, 0, none⟩ = some (.int .i32 L)) := P
      have OL2 : Hid ((w1.drewN q1).cell? ⟨lb, lo, none⟩ = some (.int .i32 L)) := OL
      clear ROW BEL O P OL
      generalize w1.drewN q1 = w2 at *
      have s1 : ∀ x, (Instr.slice 54 (.slice (some ⟨w.heap.size, 0, none⟩) (m + 1) (m + 1)) none (some (.int .i64 ((p : Int) + 1))) none).run Try.prog x = .ok (.slice (some ⟨w.heap.size, 0, none⟩) (p + 1) (m + 1)) x :=
        fun x => slice54_to w.heap.size 0 (p + 1) (m + 1) (m + 1) (by omega) x
      have s2 : ∀ x, (Instr.slice 54 (.slice (some ⟨w.heap.size, 0, none⟩) (m + 1) (m + 1)) (some (.int .i64 ((p : Int) + 1))) none none).run Try.prog x = .ok (.slice (some ⟨w.heap.size, p + 1, none⟩) (m - p) (m - p)) x :=
        fun x => by have h := slice54_from w.heap.size 0 (p + 1) (m + 1) (m + 1) (by omega) (by omega) x; rwa [Nat.zero_add, Nat.add_sub_add_right] at h
      have s3 : ∀ x, (Instr.slice 54 (.slice (some ⟨w.heap.size, 0, none⟩) (m + 1) (m + 1)) (some (.int .i64 (p : Int))) (some (.int .i64 ((p : Int) + 1))) none).run Try.prog x = .ok (.slice (some ⟨w.heap.size, p, none⟩) 1 (m + 1 - p)) x :=
        fun x => by have h := slice54_in w.heap.size 0 p (p + 1) (m + 1) (m + 1) (by omega) (by omega) (by omega) x; rwa [Nat.zero_add, Nat.add_sub_cancel_left] at h
      have s4 : ∀ x, (Instr.slice 54 (.slice (some ⟨w.heap.size, 0, none⟩) (m + 1) (m + 1)) (some (.int .i64 (m : Int))) none none).run Try.prog x = .ok (.slice (some ⟨w.heap.size, m, none⟩) 1 1) x :=
        fun x => by have h := slice54_from w.heap.size 0 m (m + 1) (m + 1) (by omega) (by omega) x; rwa [Nat.zero_add, Nat.add_sub_cancel_left] at h
      have i1 : (0 : Int) ≤ (p : Int) := by omega
      have i2 : (p : Int) < (m : Int) + 1 := by omega
      have i3 : IntKind.i64.wrap (p : Int) = (p : Int) := by rw [IntKind.wrap_i64]; omega
      have i4 : IntKind.i64.wrap (m : Int) = (m : Int) := by rw [IntKind.wrap_i64]; omega
      go_quiet ((go_at_call 17; refine Calls.quiet_of (zz_some w.heap.size 0 (p + 1) (m + 1) w.heap.size p f (f p) _ (by omega) ?_ ?_); (intro j hj; rw [Nat.zero_add]; exact (unhide ROW2).cell (by omega)); exact (unhide ROW2).cell (by omega)))
      go_wp2_with fail
      refine (zz_some w.heap.size (p + 1) (m - p) (m - p) B2 0 (fun j => f (p + 1 + j)) L (w2.drewN nq) (by omega) (fun j hj => (unhide ROW2).cell (by omega)) (unhide P2)).mono ?_
      rintro e w' ⟨rfl, q2, rfl⟩
      go_wp2
      have ROW3 : Hid ((w2.drewN (nq + q2)).rowIs w.heap.size 38 (m + 1) (fun j => .int .i32 (f j))) := ROW2
      have BEL3 : Hid (Below w.heap.size w (w2.drewN (nq + q2))) := below_drewN (unhide BEL2) _
      have O3 : Hid (∀ j, j < m + 1 → (w2.drewN (nq + q2)).cell? ⟨b, off + j, none⟩ = some (.int .i32 (f j))) := O2
      have P3 : Hid ((w2.drewN (nq + q2)).cell? ⟨B2, 0, none⟩ = some (.int .i32 L)) := P2
      have OL3 : Hid ((w2.drewN (nq + q2)).cell? ⟨lb, lo, none⟩ = some (.int .i32 L)) := OL2
      clear ROW2 BEL2 O2 P2 OL2
      generalize w2.drewN (nq + q2) = w3 at *
      have law := dio_split f p m hpm (some L)
      have g0 := unhide O3 p (by omega)
      have g1 := unhide O3 (p + 1) (by omega)
      have g2 := unhide O3 m (by omega)
      clear O3
      have i5 : (p : Int) + 1 < (m : Int) + 1 := by omega
      have i6 : IntKind.i64.wrap ((p : Int) + 1) = (p : Int) + 1 := by rw [IntKind.wrap_i64]; omega
      have v1 : dioB (fun j => f (p + j)) 1 (some (f p)) = true := by rw [dio_one]; simp
      have v2 : dioB (fun j => f (m + j)) 1 (some L) = (L == f m) := by rw [dio_one, Bool.eq_iff_iff]; simp
      generalize dioB f (m + 1) (some L) = A at *
      generalize dioB f (p + 1) (some (f p)) = Lf at *
      generalize dioB (fun j => f (p + 1 + j)) (m - p) (some L) = R at *
      subst law
      have cs : Lf = false ∨ (Lf = true ∧ f p < f (p + 1)) ∨ (Lf = true ∧ ¬ f p < f (p + 1)) := by cases Lf <;> simp <;> omega
      rcases cs with rfl | ⟨rfl, hlt2⟩ | ⟨rfl, hlt2⟩
      all_goals
        go_quiet (fail)
        go_wp2
        have ROW4 : Hid ((w3.drewN nq).rowIs w.heap.size 38 (m + 1) (fun j => .int .i32 (f j))) := ROW3
        have BEL4 : Hid (Below w.heap.size w (w3.drewN nq)) := below_drewN (unhide BEL3) _
        have g2' : (w3.drewN nq).cell? ⟨b, off + m, none⟩ = some (.int .i32 (f m)) := g2
        have P4 : Hid ((w3.drewN nq).cell? ⟨B2, 0, none⟩ = some (.int .i32 L)) := P3
        have OL4 : Hid ((w3.drewN nq).cell? ⟨lb, lo, none⟩ = some (.int .i32 L)) := OL3
        clear ROW3 BEL3 g0 g1 g2 P3 OL3
        generalize w3.drewN nq = w4 at *
        go_quiet ((go_at_call 17; refine Calls.quiet_of (zz_some w.heap.size p 1 (m + 1 - p) w.heap.size p (fun j => f (p + j)) (f p) _ (by omega) ?_ ?_); (intro j hj; exact (unhide ROW4).cell (by omega)); exact (unhide ROW4).cell (by omega)))
        go_wp2_with fail
        refine (zz_some w.heap.size m 1 1 B2 0 (fun j => f (m + j)) L (w4.drewN nq) (by omega) (fun j hj => (unhide ROW4).cell (by omega)) (unhide P4)).mono ?_
        rintro e w' ⟨rfl, q3, rfl⟩
        go_wp2
        have BEL5 : Hid (Below w.heap.size w (w4.drewN (nq + q3))) := below_drewN (unhide BEL4) _
        have g3 : (w4.drewN (nq + q3)).cell? ⟨b, off + m, none⟩ = some (.int .i32 (f m)) := g2'
        have gL : (w4.drewN (nq + q3)).cell? ⟨lb, lo, none⟩ = some (.int .i32 L) := OL4
        clear ROW4 BEL4 g2' P4 OL4
        generalize w4.drewN (nq + q3) = w5 at *
        go_quiet (fail)
        go_wp2
        go_ret
        exact ⟨rfl, below_drewN (unhide BEL5) _⟩

theorem splits_long (a : Option Addr) (n c : Nat) (l : Value) (k : Int) (w : World) (hn : 65536 < n) (hm : n ≤ 9223372036854775807) :
    Calls Try.prog 7 #[.slice a n c, l, .int .i64 k] w fun e w' => e = .returned (.bool true) ∧ w = w' := by
  by_cases h : n ≤ 1048576
  · have hd : (decide (n ≤ 1048576)) = true := by simp; omega
    have hd2 : decide ((65536 : Int) < (n : Int)) = true := by simp; omega
    go_enter Try.func7, Try.ntmps7
    go_wp2_with (go_at_call 18; refine (zz18 _ _ _ _ _ _ (by omega)).mono ?_; rintro e w' ⟨rfl, rfl⟩)
    go_ret
    exact ⟨rfl, rfl⟩
  · have hd : (decide (n ≤ 1048576)) = false := by simp; omega
    go_enter Try.func7, Try.ntmps7
    go_wp2_with (go_at_call 18; refine (zz18 _ _ _ _ _ _ (by omega)).mono ?_; rintro e w' ⟨rfl, rfl⟩)
    go_ret
    exact ⟨rfl, rfl⟩

theorem splits_out (a : Option Addr) (n c : Nat) (l : Value) (k : Int) (w : World) (hn : n ≤ 65536) (hk : k < 1 ∨ (n : Int) ≤ k) :
    Calls Try.prog 7 #[.slice a n c, l, .int .i64 k] w fun e w' => e = .returned (.bool true) ∧ w = w' := by
  have hd : (decide (n ≤ 1048576)) = true := by simp; omega
  have hd2 : decide ((65536 : Int) < (n : Int)) = false := by simp; omega
  by_cases h1 : k < 1
  · have h2 : decide (k < 1) = true := by simp; omega
    go_enter Try.func7, Try.ntmps7
    go_wp2_with (go_at_call 18; refine (zz18 _ _ _ _ _ _ (by omega)).mono ?_; rintro e w' ⟨rfl, rfl⟩)
    go_ret
    exact ⟨rfl, rfl⟩
  · have h2 : decide (k < 1) = false := by simp; omega
    have h3 : decide ((n : Int) ≤ k) = true := by simp; omega
    go_enter Try.func7, Try.ntmps7
    go_wp2_with (go_at_call 18; refine (zz18 _ _ _ _ _ _ (by omega)).mono ?_; rintro e w' ⟨rfl, rfl⟩)
    go_ret
    exact ⟨rfl, rfl⟩
end Go.Proofs.Qxb6619464a

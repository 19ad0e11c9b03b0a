import Derived.Test.Qxb6619464aDays
import Derived.Deep.OwnRows
import Derived.Below
import Derived.WalkSmall
namespace Go.Proofs.Qxb6619464a
open Go.ChangeShapes Go.WideShapes Go.RowKit

theorem Try.info38 : (Try.prog.info? 38).map (fun i => (i.zero, i.size, i.bytes)) = some (some (.int .i32 0), 1, 4) := by kernel_rfl

theorem zz16 (a : Option Addr) (n c : Nat) (d : Int) (w : World) (hn : n ≤ 9223372036854775807) :
    Calls Try.prog 16 #[.slice a n c, .int .i32 d] w fun e w' => e = .returned (.bool (decide (n ≤ 1048576))) ∧ w = w' := by
  by_cases h : n ≤ 1048576
  · go_enter Try.func16, Try.ntmps16
    go_wp2
    go_ret
    exact ⟨by simp [h], rfl⟩
  · go_enter Try.func16, Try.ntmps16
    go_wp2
    go_ret
    exact ⟨by simp [h], rfl⟩

/-- the row of days after k rounds -/
def dayCells (f : Nat → Int) (k : Nat) : Nat → Value := fun j => if j < k then .int .i32 (f j) else .int .i32 0

theorem dayCells_set {w : World} {b n k : Nat} {f : Nat → Int} (h : w.rowIs b 38 n (dayCells f k)) : (w.setCell ⟨b, k, none⟩ (.int .i32 (f k))).rowIs b 38 n (dayCells f (k + 1)) := by
  refine (h.set k _).congr fun i _ => ?_
  unfold dayCells
  by_cases e : i = k
  · subst e; simp
  · simp only [e, if_false]
    by_cases e2 : i < k
    · rw [if_pos e2, if_pos (by omega)]
    · rw [if_neg e2, if_neg (by omega)]

/-- the days, then d -/
def withDay (f : Nat → Int) (n : Nat) (d : Int) : Nat → Int := fun j => if j < n then f j else d

theorem post_row {w : World} {b n : Nat} {f : Nat → Int} (d : Int) (h : w.rowIs b 38 (n + 1) (dayCells f n)) : (w.setCell ⟨b, n, none⟩ (.int .i32 d)).rowIs b 38 (n + 1) (fun j => .int .i32 (withDay f n d j)) := by
  refine (h.set n _).congr fun i hi => ?_
  unfold dayCells withDay
  by_cases e : i = n
  · subst e; simp
  · have : i < n := by omega
    simp [e, this]

theorem incB_congr {f g : Nat → Int} : ∀ n, (∀ j, j < n → f j = g j) → incB f n = incB g n
  | 0, _ => rfl
  | 1, _ => rfl
  | n + 2, h => by
    simp only [incB]
    rw [incB_congr (n + 1) (fun j hj => h j (by omega)), h n (by omega), h (n + 1) (by omega)]

/-- THE PLAIN LAW: posting one more day. -/
theorem dio_post (f : Nat → Int) (m : Nat) (d : Int) : dioB (withDay f (m + 1) d) (m + 1 + 1) (some d) = (dioB f (m + 1) (some (f m)) && decide (f m < d)) := by
  have e1 : incB (withDay f (m + 1) d) (m + 1) = incB f (m + 1) := incB_congr _ fun j hj => by simp [withDay, hj]
  have e2 : withDay f (m + 1) d m = f m := by simp [withDay]
  have e3 : withDay f (m + 1) d (m + 1) = d := by simp [withDay]
  simp only [dioB, incB, e1, e2, e3]
  simp

set_option maxHeartbeats 400000 in
theorem posting (a : Option Addr) (n c : Nat) (f : Nat → Int) (d : Int) (w : World) (hn : n ≤ 65536)
    (hA : 0 < n → ∃ b off, a = some ⟨b, off, none⟩ ∧ b < w.heap.size ∧ ∀ j, j < n → w.cell? ⟨b, off + j, none⟩ = some (.int .i32 (f j))) :
    Calls Try.prog 6 #[.slice a n c, .int .i32 d] w fun e w' => e = .returned (.bool true) ∧ Below w.heap.size w w' := by
  have hmk := run_make_row' (P := Try.prog) 54 38 (.int .i32 0) 4 Try.underlying54 Try.info38 rfl .i64 .i64 (n + 1) (by omega) (by omega) w
  have ec : ((n + 1 : Nat) : Int) = (n : Int) + 1 := by omega
  rw [ec] at hmk
  clear ec
  have HA := hide hA
  clear hA
  have hd : (decide (n ≤ 1048576)) = true := by simp; omega
  have hd2 : decide ((65536 : Int) < (n : Int)) = false := by simp; omega
  have r0 := World.rowIs_made w (.int .i32 0) (n + 1) 38
  have b0 : Below w.heap.size w (w.alloc (.cells (madeCells #[.int .i32 0] (n + 1)) 38)) := (Below.refl _ _).alloc (Nat.le_refl _) _
  have R0 := hide r0
  have B0 := hide b0
  clear r0 b0
  go_enter Try.func6, Try.ntmps6
  go_wp2_with (go_at_call 16; refine (zz16 _ _ _ _ _ (by omega)).mono ?_; rintro e w' ⟨rfl, rfl⟩)
  go_loopw [7] (fun i wr => ∃ k : Nat, k ≤ n ∧ i = .int .i64 k ∧ wr.rowIs w.heap.size 38 (n + 1) (dayCells f k) ∧ Below w.heap.size w wr) (fun i _ => n - (intOf i).toNat)
  case atStart => exact ⟨0, Nat.zero_le _, rfl, unhide R0, unhide B0⟩
  case round =>
    obtain ⟨k, hk, rfl, hrow, hbel⟩ := hrel
    clear hmk R0 B0
    by_cases hlt : k < n
    · obtain ⟨b, off, rfl, hb, hc⟩ := unhide HA (by omega)
      have g0 : wr.cell? ⟨b, off + k, none⟩ = some (.int .i32 (f k)) := (hbel.cell (by exact hb)).trans (hc k hlt)
      have g1 := hrow.cell (i := k) (by omega)
      have g2 := hrow.frozen k
      have hrow' := hide (dayCells_set hrow)
      have hbel' := hide (hbel.setCell (p := ⟨w.heap.size, k, none⟩) (Nat.le_refl _) (.int .i32 (f k)))
      clear hrow hbel hc
      go_wp2
      go_roundw
      case rel => exact ⟨k + 1, by omega, by go_num, unhide hrow', unhide hbel'⟩
      case measure => simp [intOf]; omega
    · obtain rfl : k = n := by omega
      have g1 := hrow.cell (i := k) (by omega)
      have g2 := hrow.frozen k
      have hrow' := hide (post_row d hrow)
      have hbel' := hide (hbel.setCell (p := ⟨w.heap.size, k, none⟩) (Nat.le_refl _) (.int .i32 d))
      clear hrow hbel
      go_wp2
      have hrow2 := unhide hrow'
      have hbel2 := unhide hbel'
      clear hrow' hbel' g1 g2
      generalize wr.setCell ⟨w.heap.size, k, none⟩ (.int .i32 d) = w2 at *
      have hC : ∀ j, j < k + 1 → w2.cell? ⟨w.heap.size, j, none⟩ = some (.int .i32 (withDay f k d j)) := fun j hj => hrow2.cell hj
      have HC := hide hC
      have HB := hide hbel2
      clear hrow2 hC hbel2
      have i1 : (0 : Int) ≤ (k : Int) := by omega
      have i2 : (k : Int) < (k : Int) + 1 := by omega
      have s1 := slice54_from w.heap.size 0 k (k + 1) (k + 1) (by omega) (by omega)
      have v1 : dioB (fun j => withDay f k d (k + j)) 1 (some d) = true := by simp [dioB, incB, withDay]
      go_quiet ((go_at_call 17; refine Calls.quiet_of (zz_some w.heap.size k 1 1 w.heap.size k (fun j => withDay f k d (k + j)) d _ (by omega) ?_ ?_); (intro j hj; exact unhide HC (k + j) (by omega)); (rw [World.cell?_drewN, unhide HC k (by omega)]; simp [withDay])))
      clear v1 s1
      have hC2 : ∀ j, j < k + 1 → (w2.drewN nq).cell? ⟨w.heap.size, 0 + j, none⟩ = some (.int .i32 (withDay f k d j)) := fun j hj => by rw [Nat.zero_add]; exact unhide HC j hj
      have hC3 : (w2.drewN nq).cell? ⟨w.heap.size, k, none⟩ = some (.int .i32 d) := by rw [World.cell?_drewN, unhide HC k (by omega)]; simp [withDay]
      have HZ := hide (zz_some w.heap.size 0 (k + 1) (k + 1) w.heap.size k (withDay f k d) d (w2.drewN nq) (by omega) hC2 hC3)
      clear hC2 hC3
      cases k with
      | zero =>
        have v2 : dioB (withDay f 0 d) 1 (some d) = true := by simp [dioB, incB, withDay]
        go_wp2_with fail
        refine (unhide HZ).mono ?_
        rintro e w' ⟨rfl, q, rfl⟩
        go_wp2
        go_ret
        exact ⟨rfl, below_drewN (unhide HB) _⟩
      | succ m =>
        have i0 : (((m : Int) + 1) == 0) = false := by rw [beq_eq_false_iff_ne]; omega
        go_wp2_with fail
        refine (unhide HZ).mono ?_
        rintro e w' ⟨rfl, q, rfl⟩
        clear HZ
        go_wp2
        have HC3 : Hid (∀ j, j < m + 1 + 1 → (w2.drewN (nq + q)).cell? ⟨w.heap.size, j, none⟩ = some (.int .i32 (withDay f (m + 1) d j))) := HC
        have HB3 : Hid (Below w.heap.size w (w2.drewN (nq + q))) := below_drewN (unhide HB) _
        clear HC HB
        generalize w2.drewN (nq + q) = w3 at *
        obtain ⟨b, off, rfl, hb, hc⟩ := unhide HA (by omega)
        have g0 : w3.cell? ⟨b, off + m, none⟩ = some (.int .i32 (f m)) := ((unhide HB3).cell (by exact hb)).trans (hc m (by omega))
        clear HA hc
        have s2 := slice54_to w.heap.size 0 (m + 1) (m + 1 + 1) (m + 1 + 1) (by omega)
        have ec : ((m + 1 : Nat) : Int) = (m : Int) + 1 := by omega
        simp only [ec] at s2
        clear ec
        have i3 : (0 : Int) ≤ (m : Int) := by omega
        have i4 : (m : Int) < (m : Int) + 1 := by omega
        have i5 : (m : Int) < (m : Int) + 1 + 1 := by omega
        have i6 : IntKind.i64.wrap (m : Int) = (m : Int) := by rw [IntKind.wrap_i64]; omega
        have law := dio_post f m d
        have c1 : ∀ j, j < m + 1 → w3.cell? ⟨w.heap.size, 0 + j, none⟩ = some (.int .i32 (f j)) := fun j hj => by rw [Nat.zero_add, unhide HC3 j (by omega)]; simp [withDay, hj]
        have c2 : w3.cell? ⟨w.heap.size, m, none⟩ = some (.int .i32 (f m)) := by rw [unhide HC3 m (by omega)]; simp [withDay]
        have C1 := hide c1
        have C2 := hide c2
        clear c1 c2
        cases hw : dioB f (m + 1) (some (f m))
        · have hz : dioB (withDay f (m + 1) d) (m + 1 + 1) (some d) = false := by rw [law, hw]; rfl
          clear law
          go_quiet ((go_at_call 17; refine Calls.quiet_of (zz_some w.heap.size 0 (m + 1) (m + 1 + 1) w.heap.size m f (f m) _ (by omega) ?_ ?_); exact unhide C1; exact unhide C2))
          go_wp2
          go_ret
          exact ⟨rfl, below_drewN (unhide HB3) _⟩
        · by_cases hlt : f m < d
          · have hz : dioB (withDay f (m + 1) d) (m + 1 + 1) (some d) = true := by rw [law, hw]; simp [hlt]
            clear law
            go_quiet ((go_at_call 17; refine Calls.quiet_of (zz_some w.heap.size 0 (m + 1) (m + 1 + 1) w.heap.size m f (f m) _ (by omega) ?_ ?_); exact unhide C1; exact unhide C2))
            go_wp2
            go_ret
            exact ⟨rfl, below_drewN (unhide HB3) _⟩
          · have hz : dioB (withDay f (m + 1) d) (m + 1 + 1) (some d) = false := by rw [law, hw]; simp [hlt]
            clear law
            go_quiet ((go_at_call 17; refine Calls.quiet_of (zz_some w.heap.size 0 (m + 1) (m + 1 + 1) w.heap.size m f (f m) _ (by omega) ?_ ?_); exact unhide C1; exact unhide C2))
            go_wp2
            go_ret
            exact ⟨rfl, below_drewN (unhide HB3) _⟩

theorem posting_long (a : Option Addr) (n c : Nat) (d : Int) (w : World) (hn : 65536 < n) (hm : n ≤ 9223372036854775807) :
    Calls Try.prog 6 #[.slice a n c, .int .i32 d] w fun e w' => e = .returned (.bool true) ∧ w = w' := by
  by_cases h : n ≤ 1048576
  · have hd : (decide (n ≤ 1048576)) = true := by simp; omega
    have hd2 : decide ((65536 : Int) < (n : Int)) = true := by simp; omega
    go_enter Try.func6, Try.ntmps6
    go_wp2_with (go_at_call 16; refine (zz16 _ _ _ _ _ (by omega)).mono ?_; rintro e w' ⟨rfl, rfl⟩)
    go_ret
    exact ⟨rfl, rfl⟩
  · have hd : (decide (n ≤ 1048576)) = false := by simp; omega
    go_enter Try.func6, Try.ntmps6
    go_wp2_with (go_at_call 16; refine (zz16 _ _ _ _ _ (by omega)).mono ?_; rintro e w' ⟨rfl, rfl⟩)
    go_ret
    exact ⟨rfl, rfl⟩
end Go.Proofs.Qxb6619464a

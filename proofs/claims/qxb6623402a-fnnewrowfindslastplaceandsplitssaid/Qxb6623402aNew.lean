import Derived.Test.Qxb6623402aPlaces
import Derived.Deep.RegionLaw
namespace Go.Proofs.Qxb6623402a
open Go.ChangeShapes Go.WideShapes Go.RowKit Go.Maps

def noPlaces : Array Value := Array.replicate 32 (.slice none 0 0)

theorem pinv_start (w w' : World) (f : Nat → ByteArray) (n : Nat) (hg : (w.alloc (.cells noPlaces 40)).grownBy w' none) : PInv w' w.heap.size (fun _ => .slice none 0 0) (fun _ => []) f n := by
  refine ⟨?_, fun b _ => ⟨World.ownsRow_nil _ _ _ _, fun p hp => by cases hp⟩, fun _ _ _ _ _ => .inl rfl⟩
  have h := World.rowIs_alloc w noPlaces 40 (fun _ => .slice none 0 0) (fun i hi => by
    unfold noPlaces at hi ⊢
    rw [Array.size_replicate] at hi
    simp [hi])
  exact h.of_block (hg.block _ (by simp) (by simp))

/-- at the end: the places are right -/
theorem pinv_end {w : World} {pb n : Nat} {V : Nat → Value} {L : Nat → List (ByteArray × Nat)} {f : Nat → ByteArray} (h : PInv w pb V L f n) (hl : ∀ b, b < 32 → (L b).length ≤ n) (hc : ∀ x a, last f n x = some a → (x, a) ∈ L (bk x)) : PlacesIs w w.heap.size pb f n := by
  obtain ⟨hrow, hown, _⟩ := h
  refine ⟨hrow.lt, L, fun b hb => ?_, hc⟩
  obtain ⟨ho, hs⟩ := hown b hb
  have hcell := hrow.cell hb
  rcases ho.2 with ⟨hv, h0⟩ | ⟨g, cap, cur, hv, _, hg, _⟩
  · refine ⟨none, 0, by rw [hcell, hv, h0], fun h => by omega, hl b hb, hs⟩
  · refine ⟨some ⟨g, 0, none⟩, cap, by rw [hcell, hv], fun _ => ⟨g, rfl, (Array.getElem?_eq_some_iff.1 hg).1, fun j v hj => ?_⟩, hl b hb, hs⟩
    have hjl : j < (L b).length * 2 := by
      have := (List.getElem?_eq_some_iff.1 hj).1
      rwa [flat_len] at this
    have h3 := (hv ▸ ho).cellAt j hjl
    rw [h3, hj]

theorem PInv.kept {w w' : World} {pb n r : Nat} {V : Nat → Value} {L : Nat → List (ByteArray × Nat)} {f : Nat → ByteArray} (h : PInv w pb V L f n) (hg : w.grownBy w' (some r)) (h1 : r ≠ pb) (h2 : r < pb + 2) : PInv w' pb V L f n := by
  obtain ⟨hrow, hown, hap⟩ := h
  refine ⟨hrow.of_block (hg.block pb hrow.lt (by simp; omega)), fun b hb => ⟨(hown b hb).1.kept hg (.inr fun e => ?_), (hown b hb).2⟩, hap⟩
  have := ((hown b hb).1.lt r e).1
  omega

theorem ranges_drew {w : World} {b r n : Nat} {D : DataW Unit} {left : Lit → Bool} {cnt : Nat} (h : w.ranges Try.prog 9 (plainElem Try.prog 3) b r n D left cnt) : w.drew.ranges Try.prog 9 (plainElem Try.prog 3) b r n D left cnt := by
  unfold World.ranges at h ⊢
  exact h

/-- what the loop knows -/
def NInv (w wr : World) (mb n : Nat) (f : Nat → ByteArray) (left : Lit → Bool) (cnt : Nat) : Prop :=
  wr.ranges Try.prog 9 (plainElem Try.prog 3) mb (w.heap.size + 1) n (DTo f n) left cnt ∧ Below w.heap.size w wr ∧
  ∃ V L, PInv wr w.heap.size V L f n ∧ (∀ b, b < 32 → (L b).length + cnt ≤ n) ∧ ∀ x a, last f n x = some a → left (.string x.data.toList) = false → (x, a) ∈ L (bk x)

set_option maxHeartbeats 1000000 in
theorem newPlaces (mb n : Nat) (f : Nat → ByteArray) (w : World) (hn : n ≤ 4096) (hmb : mb < w.heap.size) (hown : w.ownsMap Try.prog 9 (plainElem Try.prog 3) mb n (DTo f n)) :
    Calls Try.prog 8 #[.map (some mb)] w fun e w' => e = .returned (.pointer (some ⟨w.heap.size, 0, none⟩)) ∧ Below w.heap.size w w' ∧ PlacesIs w' w'.heap.size w.heap.size f n := by
  have HO := hide hown
  have HO1 := hide (hown.alloc (.cells noPlaces 40))
  have Z1 : Hid ((w.alloc (.cells noPlaces 40)).heap.size = w.heap.size + 1) := by simp [Hid]
  have PS := hide (fun w' => pinv_start w w' f n)
  have B1 : Hid (Below w.heap.size w (w.alloc (.cells noPlaces 40))) := (Below.refl _ _).alloc (Nat.le_refl _) _
  clear hown
  go_enter Try.func8, Try.ntmps8
  go_wp2_with (at_range; change wpList Try.prog _ _ _ _ (w.alloc (.cells noPlaces 40)); refine wpList_range_own _ rfl _ 28 rfl 9 3 law9 Try.underlying28 _ mb n (DTo f n) rfl (unhide HO1) ?_; intro w0 hrg0 hg0 hs0)
  go_frame
  rw [unhide Z1] at hrg0 hs0 ⊢
  have N0 : Hid (NInv w w0 mb n f (Maps.has (DTo f n)) (Maps.size (DTo f n))) := by
    refine ⟨hrg0, (unhide B1).grown hg0 (by rw [unhide Z1]; omega) (fun k h => by cases h), _, _, unhide PS w0 hg0, fun b _ => ?_, fun x a hx hl => ?_⟩
    · have := (unhide HO).size_le
      simpa using this
    · rw [DTo_has, hx] at hl
      cases hl
  clear hrg0 hg0 hs0 HO HO1 PS B1 Z1
  go_loopw [4] (fun _ wr => ∃ left cnt, NInv w wr mb n f left cnt) (fun _ wr => wr.rangeLeft mb (w.heap.size + 1))
  case atStart => exact ⟨_, _, unhide N0⟩
  case round =>
    clear N0
    obtain ⟨left, cnt, hrg, hbel, V, L, hpi, hlen, hcov⟩ := hrel
    have HR := hide hrg
    have HB := hide hbel
    have HP := hide hpi
    have HL := hide hlen
    have HC := hide hcov
    clear hrg hbel hpi hlen hcov
    go_wp2_with (at_next; refine wpList_next_ranges_si _ rfl _ rfl 9 3 .i64 law9 Try.underlying9 Try.underlying3 mb (w.heap.size + 1) n (DTo f n) _ _ rfl (unhide HR) ?_ ?_)
    · intro _ hl0
      have HZ := hide hl0
      clear hl0
      go_wp2
      go_ret
      exact ⟨rfl, unhide HB, pinv_end (unhide HP) (fun b hb => by have := unhide HL b hb; omega) (fun x a hx => unhide HC x a hx (unhide HZ _))⟩
    · intro x c w1 cnt1 hlx hat hrg1 hlt hg1 hen
      obtain ⟨a, hx, rfl⟩ := DTo_inv f n x c hat
      have P1 := hide ((unhide HP).kept hg1 (by omega) (by omega))
      have B1 : Hid (Below w.heap.size w w1) := (unhide HB).grown hg1 (unhide HB).size (fun k h => by cases h; omega)
      have z1 : w.heap.size + 2 ≤ w1.drew.heap.size := by have h := hrg1.lt; show _ ≤ w1.heap.size; omega
      obtain ⟨g, cap, w4, hr, c4, f4, P5, R5, B5⟩ := place_step (w := w1.drew) (unhide P1) hx (by have := unhide HL (bk x) (bk_lt x); omega) (ranges_drew hrg1) hmb z1
      have cV := (unhide P1).1.cell (bk_lt x)
      have LT := hide hlt
      have HX := hide hx
      have BF := hide ((unhide B1).drew.trans B5)
      have PF := hide P5
      have RF := hide R5
      have hbk := bk_lt x
      have NF : Hid (NInv w (w4.setCell ⟨w.heap.size, bk x, none⟩ (.slice (some ⟨g, 0, none⟩) ((L (bk x)).length + 1) cap)) mb n f (fun z => left z && !z.sameKey (.string x.data.toList)) cnt1) := by
        obtain ⟨V', P5'⟩ := P5
        refine ⟨R5, unhide BF, V', _, P5', fun b hb => ?_, fun y a' hy hl => ?_⟩
        · have h1 := unhide HL b hb
          unfold putL
          by_cases e : b = bk x
          · rw [if_pos e, ← e, List.length_append]
            simp only [List.length_singleton]
            omega
          · rw [if_neg e]; omega
        · unfold putL
          cases hly : left (.string y.data.toList)
          · have h2 := unhide HC y a' hy hly
            by_cases e : bk y = bk x
            · rw [if_pos e, ← e]; exact List.mem_append_left _ h2
            · rw [if_neg e]; exact h2
          · simp only [hly, Bool.true_and, Bool.not_eq_false'] at hl
            have e2 := WideAt.sameKey_eq hl
            injection e2 with e2
            obtain rfl := bytes_inj e2
            rw [if_pos rfl]
            have e3 : a' = a := by rw [unhide HX] at hy; cases hy; rfl
            subst e3
            exact List.mem_append_right _ (by simp)
      have MF : Hid ((w4.setCell ⟨w.heap.size, bk x, none⟩ (.slice (some ⟨g, 0, none⟩) ((L (bk x)).length + 1) cap)).rangeLeft mb (w.heap.size + 1) < wr.rangeLeft mb (w.heap.size + 1)) := by
        show _ < _
        rw [R5.left_eq, (unhide HR).left_eq]; exact hlt
      have hbu : ∀ w p, Calls Try.prog 12 #[p, .string x] w fun e w' => e = .returned (.int .i64 (bk x : Int)) ∧ w = w' := fun w p => bucket p x w
      have HBU := hide hbu
      clear hlx hat hrg1 hlt hg1 P5 R5 B5 HP P1 B1 hx LT HX HR HB HL HC hbu
      generalize V (bk x) = Vb at *
      generalize (L (bk x)).length = lb at *
      generalize bk x = b at *
      have i1 : (0 : Int) ≤ (b : Int) := by omega
      have i2 : (b : Int) < 32 := by omega
      go_wp2_with fail
      refine (unhide HBU _ _).mono ?_
      rintro e w2 ⟨rfl, rfl⟩
      clear hen HBU
      go_wp2
      have cA : (w1.alloc (.cells #[.string x, .int .i64 (a : Int)] 43)).cell? ⟨w.heap.size, b, none⟩ = some Vb := by
        exact (World.cell?_of_block (w := w1) (Go.Deep.blk_alloc_lt _ _ _ (show w.heap.size < w1.heap.size by have h : _ ≤ w1.heap.size := z1; omega))).trans cV
      have cD : w1.drew.cell? ⟨w.heap.size, b, none⟩ = some Vb := cV
      go_region_law ((refine step_append_run rfl _ _ rfl Vb (.slice (some ⟨w1.drew.heap.size, 0, none⟩) 1 1) (.slice (some ⟨g, 0, none⟩) (lb + 1) cap) w4 (by simp [Act.eval]) (by simp [Act.eval]) (by exact hr) ?_))
      all_goals (first | exact ⟨⟨_, _, unhide NF⟩, unhide MF⟩ | (go_wp2; exact ⟨⟨_, _, unhide NF⟩, unhide MF⟩))
end Go.Proofs.Qxb6623402a

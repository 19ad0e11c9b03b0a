import Derived.Test.Qxb6619464aDays
import Derived.Test.Qxb6619464aNeg
import Derived.Laws.IdiomRangeMap
import Derived.Below
import Derived.WalkSmall
namespace Go.Proofs.Qxb6619464a
open Go.ChangeShapes Go.WideShapes Go.RowKit Go.Maps

theorem law9 : Keyed Try.prog 9 := string_keyed Try.underlying9

set_option maxHeartbeats 400000 in
theorem valid_some (pb b n : Nat) (s : ByteArray) (D : DataW Unit) (w : World)
    (hpb : pb < w.heap.size) (h0 : w.cell? ⟨pb, 0, none⟩ = some (.string s)) (h1 : w.cell? ⟨pb, 1, none⟩ = some (.map (some b)))
    (hown : w.ownsMap Try.prog 9 (plainElem Try.prog 2) b n D) :
    Calls Try.prog 20 #[.pointer (some ⟨pb, 0, none⟩)] w fun e w' => e = .returned (.bool (decide (negD D = 0) && !s.toList.isEmpty)) ∧ Below w.heap.size w w' := by
  have HO := hide hown
  have H0 := hide h0
  clear hown h0
  go_enter Try.func20, Try.ntmps20
  go_wp2_with (at_range; refine wpList_range_own _ rfl _ 50 rfl 9 2 law9 Try.underlying50 _ b n D rfl (unhide HO) ?_; intro w0 hrg0 hg0 hs0)
  go_frame
  have B0 : Hid (Below w.heap.size w w0) := (Below.refl _ _).grown hg0 (Nat.le_refl _) (fun k h => by cases h)
  have R0 := hide hrg0
  clear hrg0 hg0
  go_loopw [4] (fun _ wr => ∃ left cnt, wr.ranges Try.prog 9 (plainElem Try.prog 2) b w.heap.size n D left cnt ∧ (∀ k, Maps.has D k = true → left k = false → isNeg (D.atKey k (.lit (.int .i64 0))) = false) ∧ Below w.heap.size w wr) (fun _ wr => wr.rangeLeft b w.heap.size)
  case atStart => exact ⟨_, _, unhide R0, fun k h1 h2 => by rw [h1] at h2; (cases h2), unhide B0⟩
  case round =>
    clear R0 B0
    obtain ⟨left, cnt, hrg, hdone, hbel⟩ := hrel
    have HR := hide hrg
    have HD := hide hdone
    have HB := hide hbel
    clear hrg hdone hbel
    go_wp2_with (at_next; refine wpList_next_ranges_si _ rfl _ rfl 9 2 .i64 law9 Try.underlying9 Try.underlying2 b w.heap.size n D _ _ rfl (unhide HR) ?_ ?_)
    · intro _ hl0
      have g0 : wr.cell? ⟨pb, 0, none⟩ = some (.string s) := ((unhide HB).cell (by exact hpb)).trans (unhide H0)
      have HL := hide hl0
      clear hl0
      go_wp2
      go_ret
      obtain ⟨es, e1, e2, e3⟩ := (unhide HO).entries law9
      have hz := negD_zero e1 e2 e3 (.lit (.int .i64 0)) (fun k hk => unhide HD k hk (unhide HL k))
      exact ⟨by simp [hz], unhide HB⟩
    · intro x c w1 cnt1 hlx hat hrg1 hlt hg1 hen
      have HX := hide hlx
      have HT := hide hat
      have HR1 := hide hrg1
      have HLT := hide hlt
      have HG := hide hg1
      clear hlx hat hrg1 hlt hg1
      by_cases hc : c < 0
      · go_wp2
        go_ret
        have hh : Maps.has D (.string x.data.toList) = true := has_true_of_atKey (unhide HT)
        have hp := negD_pos (.lit (.int .i64 0)) hh (by rw [unhide HT]; simp [isNeg, hc])
        have hz : ¬ negD D = 0 := by omega
        exact ⟨by simp [hz], (unhide HB).grown (unhide HG) (unhide HB).size (fun k h => by cases h; exact Nat.le_refl _)⟩
      · go_wp2
        go_roundw
        case rel =>
          refine ⟨_, _, unhide HR1, fun k h1 h2 => ?_, (unhide HB).grown (unhide HG) (unhide HB).size (fun k h => by cases h; exact Nat.le_refl _)⟩
          cases hl : left k
          · exact unhide HD k h1 hl
          · simp only [hl, Bool.true_and, Bool.not_eq_false'] at h2
            rw [WideAt.sameKey_eq h2, unhide HT]
            simp [isNeg]; omega
        case measure => rw [(unhide HR1).left_eq, (unhide HR).left_eq]; exact unhide HLT

set_option maxHeartbeats 400000 in
theorem valid_nilmap (pb : Nat) (s : ByteArray) (w : World)
    (hpb : pb < w.heap.size) (h0 : w.cell? ⟨pb, 0, none⟩ = some (.string s)) (h1 : w.cell? ⟨pb, 1, none⟩ = some (.map none)) :
    Calls Try.prog 20 #[.pointer (some ⟨pb, 0, none⟩)] w fun e w' => e = .returned (.bool !s.toList.isEmpty) ∧ Below w.heap.size w w' := by
  have r1 := fun w => run_range_nilMap (P := Try.prog) w 50 9 2 Try.underlying50
  have r2 := run_next_nilMap (P := Try.prog) w
  go_enter Try.func20, Try.ntmps20
  go_wp2
  refine wp_loop_rounds 1 ?_
  rw [rounds_succ]
  go_wp2
  go_ret
  exact ⟨rfl, (Below.refl _ _).alloc (Nat.le_refl _) _⟩

theorem zz14 (w : World) : Calls Try.prog 14 #[] w fun e w' => e = .returned (.bool true) ∧ w = w' := by
  go_enter Try.func14, Try.ntmps14
  go_wp2
  go_ret
  exact ⟨rfl, rfl⟩

theorem zz15_some (b n : Nat) (s : ByteArray) (D : DataW Unit) (w : World) (hown : w.ownsMap Try.prog 9 (plainElem Try.prog 2) b n D) :
    Calls Try.prog 15 #[.string s, .map (some b)] w fun e w' => e = .returned (.bool (decide (negD D = 0) && !s.toList.isEmpty)) ∧ Below w.heap.size w w' := by
  have HV := hide (valid_some w.heap.size b n s D (w.alloc (.cells #[.string s, .map (some b)] 62)) (by simp) (by rw [World.cell?_alloc_at _ _ _ _ rfl]; rfl) (by rw [World.cell?_alloc_at _ _ _ _ rfl]; rfl) (hown.alloc _))
  clear hown
  go_enter Try.func15, Try.ntmps15
  go_wp2_with fail
  refine (unhide HV).mono ?_
  rintro e w' ⟨rfl, hb⟩
  have HB := hide hb
  clear HV hb
  go_wp2
  go_ret
  exact ⟨rfl, ((Below.refl _ _).alloc (Nat.le_refl _) _).trans ((unhide HB).mono (by simp))⟩

theorem zz15_nil (s : ByteArray) (w : World) :
    Calls Try.prog 15 #[.string s, .map none] w fun e w' => e = .returned (.bool !s.toList.isEmpty) ∧ Below w.heap.size w w' := by
  have HV := hide (valid_nilmap w.heap.size s (w.alloc (.cells #[.string s, .map none] 62)) (by simp) (by rw [World.cell?_alloc_at _ _ _ _ rfl]; rfl) (by rw [World.cell?_alloc_at _ _ _ _ rfl]; rfl))
  go_enter Try.func15, Try.ntmps15
  go_wp2_with fail
  refine (unhide HV).mono ?_
  rintro e w' ⟨rfl, hb⟩
  have HB := hide hb
  clear HV hb
  go_wp2
  go_ret
  exact ⟨rfl, ((Below.refl _ _).alloc (Nat.le_refl _) _).trans ((unhide HB).mono (by simp))⟩
end Go.Proofs.Qxb6619464a

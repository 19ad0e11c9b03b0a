import Derived.Test.Qxb6623333aAt
namespace Go.Proofs.Qxb6623333a
open Go.ChangeShapes Go.WideShapes Go.RowKit Go.Maps

/-- what one element of the two sides looks like -/
theorem pair_at {w : World} {B1 B2 n m : Nat} {r a : Option Addr} {G E : Nat → EV} (h1 : TElems w B1 r n G) (h2 : ElemsAt w B2 a m E) {j k : Nat} (hj : j < n) (hk : k < m) (e : G j = E k) :
    ∃ b1 o1 b2 o2 M, r = some ⟨b1, o1, none⟩ ∧ a = some ⟨b2, o2, none⟩ ∧ b1 < B1 ∧ b2 < B2 ∧ w.cell? ⟨b1, o1 + j * 2, none⟩ = some (.string (E k).nm) ∧ w.cell? ⟨b1, o1 + j * 2 + 1, none⟩ = some (.map M) ∧
      w.cell? ⟨b2, o2 + k * 3, none⟩ = some (.string (E k).nm) ∧ w.cell? ⟨b2, o2 + k * 3 + 1, none⟩ = some (.slice (E k).kr (E k).kl (E k).kc) ∧ w.cell? ⟨b2, o2 + k * 3 + 2, none⟩ = some (.slice (E k).vr (E k).vl (E k).vc) ∧ MapIs w B1 M (E k) ∧ EVAt w B2 (E k) := by
  obtain ⟨b1, o1, e1, hb1, M, hc1⟩ := h1 (by omega)
  obtain ⟨b2, o2, e2, hb2, hc2⟩ := h2.1 (by omega)
  obtain ⟨a0, a1, a2⟩ := hc1 j hj
  obtain ⟨c0, c1, c2⟩ := hc2 k hk
  rw [e] at a0 a2
  exact ⟨b1, o1, b2, o2, M j, e1, e2, hb1, hb2, a0, a1, c0, c1, c2, a2, h2.2 k hk⟩

theorem cat_right (n l : Nat) (E F : Nat → EV) : cat n E F (n + l) = F l := by
  have h : ¬ n + l < n := by omega
  have e : n + l - n = l := by omega
  simp only [cat, h, if_false, e]

set_option maxHeartbeats 1000000 in
theorem pathMatches (o : ByteArray) (r a b : Option Addr) (n m cap ca cb : Nat) (E F : Nat → EV) (w : World) (hn : n ≤ 1048576) (hm : m ≤ 1048576)
    (hE : ∀ j, j < n → KeysSmall (E j)) (hF : ∀ j, j < m → KeysSmall (F j)) (hT : TElems w w.heap.size r (n + m) (cat n E F)) (hA : ElemsAt w w.heap.size a n E) (hB : ElemsAt w w.heap.size b m F) :
    Calls Try.prog 11 #[.agg #[.string o, .slice r (n + m) cap], .string o, .slice a n ca, .slice b m cb] w fun e w' => e = .returned (.bool true) ∧ Below w.heap.size w w' := by
  have b0 : Below w.heap.size w (w.alloc (.cells #[.string o, .slice r (n + m) cap] 28)) := (Below.refl _ _).alloc (Nat.le_refl _) _
  have p1 : (w.alloc (.cells #[.string o, .slice r (n + m) cap] 28)).cell? ⟨w.heap.size, 1, none⟩ = some (.slice r (n + m) cap) := by simp [go_sem]
  have z0 : (w.alloc (.cells #[.string o, .slice r (n + m) cap] 28)).heap.size = w.heap.size + 1 := by simp
  have T0 := hide (hT.later b0 b0.size)
  have A0 := hide (hA.later b0 b0.size)
  have C0 := hide (hB.later b0 b0.size)
  have B0 := hide b0
  have P1 := hide p1
  have Z0 := hide z0
  have HE := hide hE
  have HF := hide hF
  have wr0 : IntKind.i64.wrap ((n : Int) + (m : Int)) = ((n + m : Nat) : Int) := by rw [IntKind.wrap_i64]; all_goals omega
  have dd : (((n + m : Nat) : Int) == ((n + m : Nat) : Int)) = true := by simp
  clear b0 p1 z0 hE hF hT hA hB
  go_enter Try.func11, Try.ntmps11
  go_wp2
  generalize w.alloc (.cells #[.string o, .slice r (n + m) cap] 28) = w0 at *
  clear dd
  go_loopw [9] (fun i wr => ∃ k : Nat, k ≤ n ∧ i = .int .i64 k ∧ Below w0.heap.size w0 wr) (fun i _ => n - (intOf i).toNat)
  case atStart => exact ⟨0, Nat.zero_le _, rfl, Below.refl _ _⟩
  case round =>
    obtain ⟨k, hk, rfl, hbel⟩ := hrel
    have p1 := (hbel.cell (p := ⟨w.heap.size, 1, none⟩) (show w.heap.size < _ by rw [unhide Z0]; omega)).trans (unhide P1)
    have BEL := hide hbel
    have zr := hbel.size
    clear hbel
    by_cases hlt : k < n
    · obtain ⟨b1, o1, b2, o2, M, rfl, rfl, hb1, hb2, g0, g1, g2, g3, g4, hM, hV⟩ := pair_at ((unhide T0).later (unhide BEL) zr) ((unhide A0).later (unhide BEL) zr) (j := k) (k := k) (by omega) hlt (by simp [cat, hlt])
      have MD : Hid (MapIs wr.drew wr.drew.heap.size M (E k)) := hM.later (Below.refl _ _).drew (by simp)
      have VD : Hid (EVAt wr.drew wr.drew.heap.size (E k)) := hV.later (Below.refl _ _).drew (by simp)
      have KS := hide (unhide HE k hlt)
      clear hM hV
      have i1 : (0 : Int) ≤ (k : Int) := by omega
      have i2 : (k : Int) < (n : Int) := by omega
      have i3 : (k : Int) < ((n + m : Nat) : Int) := by omega
      have i4 : (k : Int) < (n : Int) + (m : Int) := by omega
      generalize E k = y at *
      obtain ⟨nm, kr, kl, kc, kf, vr, vl, vc, vf⟩ := y
      simp only at g0 g1 g2 g3 g4
      go_wp2
      go_region_held3 (fun w' => w'.cell? ⟨w.heap.size, 1, none⟩ = some (.slice (some ⟨b1, o1, none⟩) (n + m) cap) ∧ w'.cell? ⟨b1, o1 + k * 2, none⟩ = some (.string nm) ∧ w'.cell? ⟨b1, o1 + k * 2 + 1, none⟩ = some (.map M) ∧ w'.cell? ⟨b2, o2 + k * 3, none⟩ = some (.string nm) ∧ w'.cell? ⟨b2, o2 + k * 3 + 1, none⟩ = some (.slice kr kl kc) ∧ w'.cell? ⟨b2, o2 + k * 3 + 2, none⟩ = some (.slice vr vl vc)) (go_keep)
        (first | (go_at_call 16; refine (elemMatches ⟨nm, kr, kl, kc, kf, vr, vl, vc, vf⟩ M _ (unhide KS) (by exact unhide VD) (by exact unhide MD)).mono ?_; rintro e w1 ⟨rfl, hb1'⟩; have q0 := cell_later hb1' (by exact p1); have q1 := cell_later hb1' (by exact g0); have q2 := cell_later hb1' (by exact g1); have q3 := cell_later hb1' (by exact g2); have q4 := cell_later hb1' (by exact g3); have q5 := cell_later hb1' (by exact g4)))
      have B1 : Hid (Below w0.heap.size w0 w1) := (unhide BEL).drew.trans (hb1'.mono (by simpa using zr))
      clear hb1' q0 q1 q2 q3 q4 q5 g0 g1 g2 g3 g4 p1
      go_wp2
      go_roundw
      case rel => exact ⟨k + 1, by omega, by go_num, unhide B1⟩
      case measure => simp [intOf]; omega
    · obtain rfl : k = n := by omega
      clear hlt p1
      go_wp2
      go_loopw [10] (fun i wr => ∃ k' : Nat, k' ≤ m ∧ i = .int .i64 k' ∧ Below w0.heap.size w0 wr) (fun i _ => m - (intOf i).toNat)
      case atStart => exact ⟨0, Nat.zero_le _, rfl, unhide BEL⟩
      case round =>
        clear BEL zr
        obtain ⟨l, hl, rfl, hbel⟩ := hrel
        have p1 := (hbel.cell (p := ⟨w.heap.size, 1, none⟩) (show w.heap.size < _ by rw [unhide Z0]; omega)).trans (unhide P1)
        have BEL := hide hbel
        have zr := hbel.size
        clear hbel
        by_cases hlt : l < m
        · obtain ⟨b1, o1, b2, o2, M, rfl, rfl, hb1, hb2, g0, g1, g2, g3, g4, hM, hV⟩ := pair_at ((unhide T0).later (unhide BEL) zr) ((unhide C0).later (unhide BEL) zr) (j := k + l) (k := l) (by omega) hlt (cat_right _ _ _ _)
          have MD : Hid (MapIs wr.drew wr.drew.heap.size M (F l)) := hM.later (Below.refl _ _).drew (by simp)
          have VD : Hid (EVAt wr.drew wr.drew.heap.size (F l)) := hV.later (Below.refl _ _).drew (by simp)
          have KS := hide (unhide HF l hlt)
          clear hM hV
          have i1 : (0 : Int) ≤ (l : Int) := by omega
          have i2 : (l : Int) < (m : Int) := by omega
          have i3 : (0 : Int) ≤ ((k + l : Nat) : Int) := by omega
          have i4 : ((k + l : Nat) : Int) < ((k + m : Nat) : Int) := by omega
          have wr1 : IntKind.i64.wrap ((k : Int) + (l : Int)) = ((k + l : Nat) : Int) := by rw [IntKind.wrap_i64]; all_goals omega
          generalize hkl : k + l = kl0 at *
          generalize hkm : k + m = km0 at *
          generalize F l = y at *
          obtain ⟨nm, kr, kl, kc, kf, vr, vl, vc, vf⟩ := y
          simp only at g0 g1 g2 g3 g4
          go_wp2
          go_region_held3 (fun w' => w'.cell? ⟨w.heap.size, 1, none⟩ = some (.slice (some ⟨b1, o1, none⟩) km0 cap) ∧ w'.cell? ⟨b1, o1 + kl0 * 2, none⟩ = some (.string nm) ∧ w'.cell? ⟨b1, o1 + kl0 * 2 + 1, none⟩ = some (.map M) ∧ w'.cell? ⟨b2, o2 + l * 3, none⟩ = some (.string nm) ∧ w'.cell? ⟨b2, o2 + l * 3 + 1, none⟩ = some (.slice kr kl kc) ∧ w'.cell? ⟨b2, o2 + l * 3 + 2, none⟩ = some (.slice vr vl vc)) (go_keep)
            (first | (go_at_call 16; refine (elemMatches ⟨nm, kr, kl, kc, kf, vr, vl, vc, vf⟩ M _ (unhide KS) (by exact unhide VD) (by exact unhide MD)).mono ?_; rintro e w1 ⟨rfl, hb1'⟩; have q0 := cell_later hb1' (by exact p1); have q1 := cell_later hb1' (by exact g0); have q2 := cell_later hb1' (by exact g1); have q3 := cell_later hb1' (by exact g2); have q4 := cell_later hb1' (by exact g3); have q5 := cell_later hb1' (by exact g4)))
          have B1 : Hid (Below w0.heap.size w0 w1) := (unhide BEL).drew.trans (hb1'.mono (by simpa using zr))
          clear hb1' q0 q1 q2 q3 q4 q5 g0 g1 g2 g3 g4 p1 wr1
          go_wp2
          go_roundw
          case rel => exact ⟨l + 1, by omega, by go_num, unhide B1⟩
          case measure => simp [intOf]; omega
        · obtain rfl : l = m := by omega
          clear hlt p1
          go_wp2
          go_ret
          exact ⟨rfl, (unhide B0).trans ((unhide BEL).mono (unhide B0).size)⟩
end Go.Proofs.Qxb6623333a

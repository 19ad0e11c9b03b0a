import Derived.Test.Qxb6623259aBits
import Derived.Laws.Bits64b
namespace Go.Proofs.Qxb6623259a
open Go.ChangeShapes Go.WideShapes Go.RowKit

theorem two_pow_lt (q : Nat) (hq : q < 64) : 2 ^ q < 18446744073709551616 := by
  have : (2 : Nat) ^ q < 2 ^ 64 := Nat.pow_lt_pow_right (by omega) hq
  omega

theorem wrap_pow (q : Nat) (hq : q < 64) : IntKind.u64.wrap ((2 : Int) ^ q) = ((2 ^ q : Nat) : Int) := by
  have h := two_pow_lt q hq
  rw [IntKind.wrap_u64]
  have e : ((2 ^ q : Nat) : Int) = (2 : Int) ^ q := by simp
  rw [← e]
  exact Int.emod_eq_of_lt (Int.natCast_nonneg _) (Int.ofNat_lt.2 h)

theorem ring_bit {w : World} {rb cap : Nat} {R : Nat → Nat} (h : w.rowIs rb 24 cap (ringCells R)) (m q : Nat) :
    (w.setCell ⟨rb, m, none⟩ (.int .u64 ((R m ||| 2 ^ q : Nat) : Int))).rowIs rb 24 cap (ringCells (setBit R m q)) := by
  refine (h.set m _).congr fun i hi => ?_
  unfold ringCells setBit
  by_cases e : i = m
  · subst e; simp
  · simp [e]

/-- one bit set -/
theorem win_bit {w : World} {B : Nat → Prop} {wb top len cap rb : Nat} {R : Nat → Nat} (h : Win w B wb top (some ⟨rb, 0, none⟩) len cap R) (hc : 0 < cap) (m q : Nat) (hm : m < len) (hq : q < 64) :
    Win (w.setCell ⟨rb, m, none⟩ (.int .u64 ((R m ||| 2 ^ q : Nat) : Int))) B wb top (some ⟨rb, 0, none⟩) len cap (setBit R m q) := by
  obtain ⟨rb', e, hb, hne, hrow⟩ := h.ring.row hc
  cases e
  refine ⟨h.base, h.win.setOther (by simpa using hne.symm) _, ⟨h.ring.le, h.ring.capLe, h.ring.nil, fun _ => ⟨rb, rfl, hb, hne, ring_bit hrow m q⟩, fun i hi => ?_, fun i => ?_⟩⟩
  · unfold setBit
    rw [if_neg (by omega)]
    exact h.ring.rest i hi
  · unfold setBit
    split
    · have := Nat.or_lt_two_pow (x := R m) (y := 2 ^ q) (n := 64) (by have := h.ring.small m; omega) (by have := two_pow_lt q hq; omega)
      omega
    · exact h.ring.small i

/-- WHAT THE WALK IS TOLD OF THE BLOCK AND THE BIT. -/
theorem bit_facts (x q : Nat) (hx : x < 18446744073709551616) (hq : q < 64) :
    ∃ P A O : Nat, IntKind.u64.wrap ((2 : Int) ^ q) = (P : Int) ∧ bits .and .u64 (x : Int) (P : Int) = (A : Int) ∧ bits .or .u64 (x : Int) (P : Int) = (O : Int) ∧ ((A : Int) != 0) = x.testBit q ∧ O = x ||| 2 ^ q := by
  refine ⟨2 ^ q, x &&& 2 ^ q, x ||| 2 ^ q, wrap_pow q hq, bits_and_u64_nat x _ hx (two_pow_lt q hq), bits_or_u64_nat x _ hx (two_pow_lt q hq), ?_, rfl⟩
  cases hb : x.testBit q
  · rw [(and_bit x q).2 hb]; rfl
  · have : ¬ (x &&& 2 ^ q) = 0 := fun h => by rw [(and_bit x q).1 h] at hb; cases hb
    rw [bne_iff_ne]
    omega

set_option maxHeartbeats 1000000 in
/-- too late -/
theorem accept_late (wb top len cap c : Nat) (r : Addr) (w : World) (c0 : w.cell? ⟨wb, 0, none⟩ = some (.int .u64 (top : Int))) (c1 : w.cell? ⟨wb, 1, none⟩ = some (.slice (some r) len cap)) (hc : c < 18446744073709551616) (ht : top < 18446744073709551616)
    (hlate : c + 1048576 < top) :
    Calls Try.prog 6 #[.pointer (some ⟨wb, 0, none⟩), .int .u64 (c : Int)] w fun e w' => e = .returned (.bool false) ∧ w = w' := by
  have q1 := fun w a n c => Lib.run_eql_slice_nil (P := Try.prog) w 22 24 a n c 0 0 Try.underlying22
  have d1 : decide ((top : Int) < (c : Int)) = false := by simp; omega
  have d2 : decide ((1048576 : Int) < (top : Int) - (c : Int)) = true := by simp; omega
  have s1 : IntKind.u64.wrap ((top : Int) - (c : Int)) = (top : Int) - (c : Int) := by rw [IntKind.wrap_u64]; omega
  have htc : (c : Int) ≤ top := by omega
  clear hc ht hlate
  go_enter Try.func6, Try.ntmps6
  go_wp2
  go_ret
  exact ⟨rfl, rfl⟩

/-- WHAT Accept DOES TO A BLOCK IN REACH. -/
def AccIn (x m q rb : Nat) (w : World) (e : Ending) (w' : World) : Prop :=
  (x.testBit q = true ∧ e = .returned (.bool false) ∧ w = w') ∨ (x.testBit q = false ∧ e = .returned (.bool true) ∧ w.setCell ⟨rb, m, none⟩ (.int .u64 ((x ||| 2 ^ q : Nat) : Int)) = w')

set_option maxHeartbeats 1000000 in
theorem accept_in (B : Nat → Prop) (wb top len cap c m q F : Nat) (rb : Nat) (R : Nat → Nat) (w : World) (hc : c < 18446744073709551616) (ht : top < 18446744073709551616) (h : Win w B wb top (some ⟨rb, 0, none⟩) len cap R) (htc : c ≤ top)
    (fF : (c : Int) / 64 = (F : Int)) (fm : (F : Int) % 16385 = (m : Int)) (fq : (c : Int) % 64 = (q : Int)) (hm : m < len) (hlate : top ≤ c + 1048576) :
    Calls Try.prog 6 #[.pointer (some ⟨wb, 0, none⟩), .int .u64 (c : Int)] w (AccIn (R m) m q rb w) := by
  have c0 : w.cell? ⟨wb, 0, none⟩ = some (.int .u64 (top : Int)) := by
    have := h.win.cell (i := 0) (by omega)
    simpa [winCells] using this
  have c1 : w.cell? ⟨wb, 1, none⟩ = some (.slice (some ⟨rb, 0, none⟩) len cap) := by
    have := h.win.cell (i := 1) (by omega)
    simpa [winCells] using this
  have hle := h.ring.le
  obtain ⟨rb', e, hb, hne, hrow⟩ := h.ring.row (by omega)
  cases e
  have r1 : w.cell? ⟨rb, m, none⟩ = some (.int .u64 (R m : Int)) := hrow.cell (i := m) (by omega)
  have r2 := hrow.frozen m
  obtain ⟨P, A, O, b1, b2, b3, b4, b5⟩ := bit_facts (R m) q (h.ring.small m) (by omega)
  have BO := hide b5
  have q1 := fun w a n c => Lib.run_eql_slice_nil (P := Try.prog) w 22 24 a n c 0 0 Try.underlying22
  have d1 : decide ((top : Int) < (c : Int)) = false := by simp; omega
  have d2 : decide ((1048576 : Int) < (top : Int) - (c : Int)) = false := by simp; omega
  have j1 : (0 : Int) ≤ (m : Int) := by omega
  have j2 : (m : Int) < (len : Int) := by omega
  have htc' : (c : Int) ≤ top := by omega
  have s1 : IntKind.u64.wrap ((top : Int) - (c : Int)) = (top : Int) - (c : Int) := by rw [IntKind.wrap_u64]; omega
  have s2 : IntKind.u64.wrap (F : Int) = (F : Int) := by rw [IntKind.wrap_u64]; omega
  have s3 : (F : Int).tmod 16385 = (m : Int) := by rw [Int.tmod_eq_emod_of_nonneg (by omega)]; exact fm
  have s4 : IntKind.u64.wrap (m : Int) = (m : Int) := by rw [IntKind.wrap_u64]; omega
  have s5 : IntKind.u64.wrap (q : Int) = (q : Int) := by rw [IntKind.wrap_u64]; omega
  have s6 : (c : Int).tmod 64 = (q : Int) := by rw [Int.tmod_eq_emod_of_nonneg (by omega)]; exact fq
  clear hrow hc ht h hle hm htc hlate b5
  generalize R m = x at *
  cases hx : x.testBit q
  · rw [hx] at b4
    have HX := hide hx
    clear hx
    go_enter Try.func6, Try.ntmps6
    go_wp2
    go_ret
    exact .inr ⟨unhide HX, rfl, by rw [unhide BO]⟩
  · rw [hx] at b4
    have HX := hide hx
    clear hx
    go_enter Try.func6, Try.ntmps6
    go_wp2
    go_ret
    exact .inl ⟨unhide HX, rfl, rfl⟩

set_option maxHeartbeats 1000000 in
theorem accept_new (B : Nat → Prop) (wb top len cap c m q F : Nat) (r : Option Addr) (R : Nat → Nat) (w : World) (hc : c < 18446744073709551616) (h : Win w B wb top r len cap R) (htc : top ≤ c) (hnew : top < c ∨ r = none)
    (hle : len ≤ nOf (c / 64)) (hB : ∀ k, B k → k < w.heap.size) (fF : (c : Int) / 64 = (F : Int)) (fm : (F : Int) % 16385 = (m : Int)) (fq : (c : Int) % 64 = (q : Int)) (hm : m < nOf (c / 64)) :
    Calls Try.prog 6 #[.pointer (some ⟨wb, 0, none⟩), .int .u64 (c : Int)] w fun e w' => ∃ rb cap1 R1 w1, Win w1 B wb c (some ⟨rb, 0, none⟩) (nOf (c / 64)) cap1 R1 ∧ Adv R R1 (top / 64) (c / 64) ∧ Keeps B w w1 ∧ AccIn (R1 m) m q rb w1 e w' := by
  have c0 : w.cell? ⟨wb, 0, none⟩ = some (.int .u64 (top : Int)) := by
    have := h.win.cell (i := 0) (by omega)
    simpa [winCells] using this
  have c1 : w.cell? ⟨wb, 1, none⟩ = some (.slice r len cap) := by
    have := h.win.cell (i := 1) (by omega)
    simpa [winCells] using this
  have HA := hide (advance B wb top len cap c r R w hc h htc hle hB)
  have q1 := fun w a n c => Lib.run_eql_slice_nil (P := Try.prog) w 22 24 a n c 0 0 Try.underlying22
  have j1 : (0 : Int) ≤ (m : Int) := by omega
  have s2 : IntKind.u64.wrap (F : Int) = (F : Int) := by rw [IntKind.wrap_u64]; omega
  have s3 : (F : Int).tmod 16385 = (m : Int) := by rw [Int.tmod_eq_emod_of_nonneg (by omega)]; exact fm
  have s4 : IntKind.u64.wrap (m : Int) = (m : Int) := by rw [IntKind.wrap_u64]; omega
  have s5 : IntKind.u64.wrap (q : Int) = (q : Int) := by rw [IntKind.wrap_u64]; omega
  have s6 : (c : Int).tmod 64 = (q : Int) := by rw [Int.tmod_eq_emod_of_nonneg (by omega)]; exact fq
  clear hc h htc hle hB
  have HM := hide hm
  clear hm
  by_cases ht : top < c
  · have d1 : decide ((top : Int) < (c : Int)) = true := by simp; omega
    clear hnew
    go_enter Try.func6, Try.ntmps6
    go_wp2_with fail
    refine (unhide HA).mono ?_
    rintro e w1 ⟨rfl, r1, cap1, R1, h1, adv, hb1⟩
    have hle1 := h1.ring.le
    obtain ⟨rb, rfl, hb, hne, hrow⟩ := h1.ring.row (by have := unhide HM; omega)
    have e1 : w1.cell? ⟨wb, 1, none⟩ = some (.slice (some ⟨rb, 0, none⟩) (nOf (c / 64)) cap1) := by
      have := h1.win.cell (i := 1) (by omega)
      simpa [winCells] using this
    have r1 : w1.cell? ⟨rb, m, none⟩ = some (.int .u64 (R1 m : Int)) := hrow.cell (i := m) (by have := unhide HM; omega)
    have r2 := hrow.frozen m
    obtain ⟨P, A, O, b1, b2, b3, b4, b5⟩ := bit_facts (R1 m) q (h1.ring.small m) (by omega)
    have BO := hide b5
    have W1 := hide h1
    have AD := hide adv
    have B1 := hide hb1
    have j2 : (m : Int) < ((nOf (c / 64) : Nat) : Int) := by have := unhide HM; omega
    clear hrow h1 adv hb1 hle1 b5 c0 c1 HA d1 HM
    generalize hN : nOf (c / 64) = N at *
    have NN := hide hN
    clear hN
    generalize hy : R1 m = x at *
    have HY := hide hy
    clear hy
    cases hx : x.testBit q
    · rw [hx] at b4
      have HX := hide hx
      clear hx
      go_wp2
      go_ret
      exact ⟨rb, cap1, R1, w1, by rw [unhide NN]; exact unhide W1, unhide AD, unhide B1, by rw [unhide HY]; exact .inr ⟨unhide HX, rfl, by rw [unhide BO]⟩⟩
    · rw [hx] at b4
      have HX := hide hx
      clear hx
      go_wp2
      go_ret
      exact ⟨rb, cap1, R1, w1, by rw [unhide NN]; exact unhide W1, unhide AD, unhide B1, by rw [unhide HY]; exact .inl ⟨unhide HX, rfl, rfl⟩⟩
  · have hr : r = none := by rcases hnew with h | h; exact absurd h ht; exact h
    subst hr
    have d1 : decide ((top : Int) < (c : Int)) = false := by simp; omega
    clear hnew
    go_enter Try.func6, Try.ntmps6
    go_wp2_with fail
    refine (unhide HA).mono ?_
    rintro e w1 ⟨rfl, r1, cap1, R1, h1, adv, hb1⟩
    have hle1 := h1.ring.le
    obtain ⟨rb, rfl, hb, hne, hrow⟩ := h1.ring.row (by have := unhide HM; omega)
    have e1 : w1.cell? ⟨wb, 1, none⟩ = some (.slice (some ⟨rb, 0, none⟩) (nOf (c / 64)) cap1) := by
      have := h1.win.cell (i := 1) (by omega)
      simpa [winCells] using this
    have r1 : w1.cell? ⟨rb, m, none⟩ = some (.int .u64 (R1 m : Int)) := hrow.cell (i := m) (by have := unhide HM; omega)
    have r2 := hrow.frozen m
    obtain ⟨P, A, O, b1, b2, b3, b4, b5⟩ := bit_facts (R1 m) q (h1.ring.small m) (by omega)
    have BO := hide b5
    have W1 := hide h1
    have AD := hide adv
    have B1 := hide hb1
    have j2 : (m : Int) < ((nOf (c / 64) : Nat) : Int) := by have := unhide HM; omega
    clear hrow h1 adv hb1 hle1 b5 c0 c1 HA d1 HM
    generalize hN : nOf (c / 64) = N at *
    have NN := hide hN
    clear hN
    generalize hy : R1 m = x at *
    have HY := hide hy
    clear hy
    cases hx : x.testBit q
    · rw [hx] at b4
      have HX := hide hx
      clear hx
      go_wp2
      go_ret
      exact ⟨rb, cap1, R1, w1, by rw [unhide NN]; exact unhide W1, unhide AD, unhide B1, by rw [unhide HY]; exact .inr ⟨unhide HX, rfl, by rw [unhide BO]⟩⟩
    · rw [hx] at b4
      have HX := hide hx
      clear hx
      go_wp2
      go_ret
      exact ⟨rb, cap1, R1, w1, by rw [unhide NN]; exact unhide W1, unhide AD, unhide B1, by rw [unhide HY]; exact .inl ⟨unhide HX, rfl, rfl⟩⟩

end Go.Proofs.Qxb6623259a

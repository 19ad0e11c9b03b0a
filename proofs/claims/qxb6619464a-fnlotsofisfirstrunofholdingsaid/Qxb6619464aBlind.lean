import Derived.Test.Qxb6619464aLotsBytes
namespace Go.Proofs.Qxb6619464a
open Go.ChangeShapes Go.WideShapes Go.RowKit

/-- AN ACCOUNT's ENTRIES at block e, its lots those that r leads to. -/
structure Ent (W : World) (e : Nat) (r : Option Addr) (n : Nat) (L : Nat → LotV) : Prop where
  lt : e < W.heap.size
  cell : W.cell? ⟨e, 1, none⟩ = some (.slice r n n)
  lots : LotsAt W W.heap.size r n L

theorem Ent.later {W W' : World} {e n : Nat} {r : Option Addr} {L : Nat → LotV} (h : Ent W e r n L) (hb : Below W.heap.size W W') : Ent W' e r n L :=
  ⟨Nat.lt_of_lt_of_le h.lt hb.size, (hb.cell (p := ⟨e, 1, none⟩) h.lt).trans h.cell, h.lots.later hb hb.size⟩

theorem ent_new {W : World} {n : Nat} {r : Option Addr} {L : Nat → LotV} (s : ByteArray) (h : LotsAt W W.heap.size r n L) :
    Ent (W.alloc (.cells #[.string s, .slice r n n, .slice none 0 0, .slice none 0 0] 32)) W.heap.size r n L ∧ Below W.heap.size W (W.alloc (.cells #[.string s, .slice r n n, .slice none 0 0, .slice none 0 0] 32)) :=
  have bx : Below W.heap.size W (W.alloc (.cells #[.string s, .slice r n n, .slice none 0 0, .slice none 0 0] 32)) := (Below.refl _ _).alloc (Nat.le_refl _) _
  ⟨⟨by simp, by rw [World.cell?_alloc_at _ _ _ _ rfl]; rfl, h.later bx bx.size⟩, bx⟩

/-- The world has grown by one call more. -/
theorem Below.on {w a b : World} (h : Below w.heap.size w a) (k : Below a.heap.size a b) : Below w.heap.size w b := h.trans (k.mono h.size)

/-- is one of the first i lots of the holding? -/
def anyB (L : Nat → LotV) (hs hc : ByteArray) : Nat → Bool
  | 0 => false
  | i + 1 => anyB L hs hc i || ofB (L i) hs hc

theorem anyB_no {L : Nat → LotV} {hs hc : ByteArray} : ∀ {n : Nat}, (∀ j, j < n → ofB (L j) hs hc = false) → anyB L hs hc n = false
  | 0, _ => rfl
  | n + 1, h => by simp [anyB, anyB_no (n := n) (fun j hj => h j (by omega)), h n (by omega)]

theorem anyB_yes {L : Nat → LotV} {hs hc : ByteArray} {j : Nat} (h : ofB (L j) hs hc = true) : ∀ {n : Nat}, j < n → anyB L hs hc n = true
  | n + 1, hj => by
    by_cases e : j = n
    · subst e; simp [anyB, h]
    · simp [anyB, anyB_yes h (n := n) (by omega)]

set_option maxRecDepth 100000 in
set_option maxHeartbeats 2000000 in
theorem blind_law (s0 s1 s2 s3 s4 : ByteArray) (a : Option Addr) (n c : Nat) (L : Nat → LotV) (w : World) (hs0 : s0.size ≤ 9223372036854775807) (hs1 : s1.size ≤ 9223372036854775807) (hs2 : s2.size ≤ 9223372036854775807) (hs3 : s3.size ≤ 9223372036854775807) (hs4 : s4.size ≤ 9223372036854775807)
    (hn : n ≤ 9223372036854775807) (hk : ∀ j, (L j).a.size ≤ 9223372036854775807 ∧ (L j).s.size ≤ 9223372036854775807 ∧ (L j).c.size ≤ 9223372036854775807) (ha : a = none → n = 0) (hA : LotsAt w w.heap.size a n L) :
    Calls Try.prog 4 #[.string s0, .slice a n c, .string s1, .string s2, .string s3, .string s4] w fun e w' => e = .returned (.bool true) ∧ Below w.heap.size w w' := by
  have H12 := hide (zz12 s0 s1 s2 s3 s4 a n c L w hs0 hs1 hs2 hs3 hs4 hn hk hA)
  have HA := hide hA
  have HN := hide ha
  clear hA hk ha
  go_enter Try.func4, Try.ntmps4
  go_wp2_with fail
  refine (unhide H12).mono ?_
  rintro e w' ⟨bo, rfl, rfl, hP⟩
  clear H12
  cases bo with
  | false =>
    go_wp2
    go_ret
    exact ⟨rfl, Below.refl _ _⟩
  | true =>
    obtain ⟨p1, p2⟩ := hP rfl
    have HP := hide p2
    clear p2 hP
    by_cases c0 : s0.size ≤ 65536 ∧ s1.size ≤ 65536 ∧ s2.size ≤ 65536 ∧ s3.size ≤ 65536 ∧ s4.size ≤ 65536 ∧ n ≤ 65536
    · obtain ⟨c0, c1, c2, c3, c4, c5⟩ := c0
      have d0 : decide ((65536 : Int) < (s0.size : Int)) = false := by simp; omega
      have d1 : decide ((65536 : Int) < (s1.size : Int)) = false := by simp; omega
      have d2 : decide ((65536 : Int) < (s2.size : Int)) = false := by simp; omega
      have d3 : decide ((65536 : Int) < (s3.size : Int)) = false := by simp; omega
      have d4 : decide ((65536 : Int) < (s4.size : Int)) = false := by simp; omega
      have d5 : decide ((65536 : Int) < (n : Int)) = false := by simp; omega
      go_wp2_with fail
      go_loopw [13, 14] (fun z i wr => ∃ k t q : Nat, k ≤ n ∧ i = .int .i64 k ∧ z = .int .i64 t ∧ t ≤ 1048576 ∧ wr = w.drewN q) (fun _ i _ => n - (intOf i).toNat)
      case atStart => exact ⟨0, s0.size + s1.size + s2.size + s3.size + s4.size, 0, by omega, rfl, by go_num, by omega, rfl⟩
      case round =>
        obtain ⟨k, t, q, hkn, rfl, rfl, ht, rfl⟩ := hrel
        by_cases hlt : k < n
        · obtain ⟨b, off, rfl, hb, hc⟩ := unhide HA (by omega)
          obtain ⟨g0, g1, g2, _, _⟩ := hc k hlt
          have gk := unhide HP k hlt
          clear hc
          generalize L k = x at *
          obtain ⟨xa, xs, xc, xd, xn⟩ := x
          simp only at g0 g1 g2 gk
          have i1 : (0 : Int) ≤ (k : Int) := by omega
          have i2 : (k : Int) < (n : Int) := by omega
          by_cases h4 : t + (64 + xa.size + xs.size + xc.size) ≤ 1048576
          · go_wp2
            go_quiet (fail)
            go_wp2
            go_roundw
            case rel => exact ⟨k + 1, t + (64 + xa.size + xs.size + xc.size), _, by omega, by go_num, by go_num, h4, rfl⟩
            case measure => simp [intOf]; omega
          · go_wp2
            go_quiet (fail)
            go_wp2
            go_ret
            exact ⟨rfl, below_drewN (Below.refl _ _) _⟩
        · obtain rfl : k = n := by omega
          have HA0 : Hid (LotsAt (w.drewN q) (w.drewN q).heap.size a k L) := HA
          have B0 : Hid (Below w.heap.size w (w.drewN q)) := below_drewN (Below.refl _ _) _
          have H0 := hide (toLots a k c L (w.drewN q) (by omega) (unhide HN) (unhide HA0))
          go_wp2_with fail
          generalize w.drewN q = w0 at *
          refine (unhide H0).mono ?_
          rintro e w1 ⟨r1, rfl, hb1, hl1⟩
          have B1 : Hid (Below w.heap.size w w1) := Below.on (unhide B0) hb1
          have HA1 : Hid (LotsAt w1 w1.heap.size a k L) := (unhide HA0).later hb1 hb1.size
          have N1 := hide (ent_new s0 hl1)
          clear H0 hb1 hl1 HA0 B0 HA
          go_wp2_with fail
          have En1 := hide (unhide N1).1
          have B2 := hide (Below.on (unhide B1) (unhide N1).2)
          have HA2 := hide ((unhide HA1).later (unhide N1).2 (unhide N1).2.size)
          clear N1 B1 HA1
          generalize w1.alloc (.cells #[.string s0, .slice r1 k k, .slice none 0 0, .slice none 0 0] 32) = w2 at *
          generalize w1.heap.size = e1 at *
          refine (toLots a k c L w2 (by omega) (unhide HN) (unhide HA2)).mono ?_
          rintro e w3 ⟨r2, rfl, hb3, hl3⟩
          have B3 := hide (Below.on (unhide B2) hb3)
          have En3 := hide ((unhide En1).later hb3)
          have HA3 := hide ((unhide HA2).later hb3 hb3.size)
          have N3 := hide (ent_new s4 hl3)
          clear hb3 hl3 B2 En1 HA2
          go_wp2_with fail
          have Em4 := hide (unhide N3).1
          have B4 := hide (Below.on (unhide B3) (unhide N3).2)
          have En4 := hide ((unhide En3).later (unhide N3).2)
          have HA4 := hide ((unhide HA3).later (unhide N3).2 (unhide N3).2.size)
          clear N3 B3 HA3 En3
          generalize w3.alloc (.cells #[.string s4, .slice r2 k k, .slice none 0 0, .slice none 0 0] 32) = w4 at *
          generalize w3.heap.size = e2 at *
          refine (zzLotsOf e1 k r1 s1 s2 s3 L w4 (by omega) (unhide En4).lt (unhide En4).cell (unhide En4).lots).mono ?_
          rintro e w5 ⟨v1, rfl, hv1, hb5⟩
          have B5 := hide (Below.on (unhide B4) hb5)
          have En5 := hide ((unhide En4).later hb5)
          have Em5 := hide ((unhide Em4).later hb5)
          have HA5 := hide ((unhide HA4).later hb5 hb5.size)
          have V1 := hide hv1
          clear hb5 hv1 B4 En4 Em4 HA4
          go_wp2_with fail
          refine (zzLotsOf e2 k r2 s4 s2 s3 L w5 (by omega) (unhide Em5).lt (unhide Em5).cell (unhide Em5).lots).mono ?_
          rintro e w6 ⟨v2, rfl, hv2, hb6⟩
          have B6 := hide (Below.on (unhide B5) hb6)
          have R1 := hide ((unhide En5).later hb6).lots
          have R2 := hide ((unhide Em5).later hb6).lots
          have HA6 := hide ((unhide HA5).later hb6 hb6.size)
          have V2 := hide hv2
          clear hb6 hv2 B5 En5 Em5 HA5
          have q1 := fun w a n c => Lib.run_eql_slice_nil (P := Try.prog) w 27 41 a n c 0 0 Try.underlying27
          rcases unhide V1 with ⟨rfl, hno⟩ | ⟨st, en, b1, o1, run1, rfl, hv1⟩
          · have NO := hide hno
            clear hno
            rcases unhide V2 with ⟨rfl, _⟩ | ⟨st, en, b2, o2, run2, _, _⟩
            · clear V1 V2 R1 R2
              go_wp2_with fail
              refine wp_loop_rounds 1 ?_
              rw [rounds_succ]
              have q2 := fun w a n c => run_neq_slice_nil_any (P := Try.prog) w 27 41 a n c 0 0 Try.underlying27
              go_wp2_with fail
              go_loop [20, 21] (fun f i => ∃ m : Nat, m ≤ k ∧ i = .int .i64 m ∧ f = .bool (anyB L s2 s3 m)) (fun _ i => k - (intOf i).toNat)
              case atStart => exact ⟨0, by omega, rfl, rfl⟩
              case round =>
                obtain ⟨m, hmk, rfl, rfl⟩ := hrel
                by_cases hlt3 : m < k
                · obtain ⟨b, off, rfl, hb, hc'⟩ := unhide HA6 (by omega)
                  obtain ⟨_, g1, g2, _, _⟩ := hc' m hlt3
                  clear hc'
                  have AB : Hid (anyB L s2 s3 (m + 1) = (anyB L s2 s3 m || ((L m).s.toList == s2.toList && (L m).c.toList == s3.toList))) := rfl
                  generalize L m = x at g1 g2 AB
                  obtain ⟨xa, xs, xc, xd, xn⟩ := x
                  simp only at g1 g2 AB
                  generalize hz : anyB L s2 s3 m = z at *
                  have HZ := hide hz
                  clear hz
                  cases y1 : (xs.toList == s2.toList) <;> cases y2 : (xc.toList == s3.toList)
                  all_goals
                    go_wp2
                    go_round
                    case rel => exact ⟨m + 1, by omega, by go_num, by rw [unhide AB, y1, y2]; simp⟩
                    case measure => simp [intOf]; omega
                · obtain rfl : m = k := by omega
                  have fin := anyB_no (unhide NO)
                  go_wp2
                  go_ret
                  exact ⟨rfl, unhide B6⟩
            · exfalso
              have x := run2.within st (Nat.le_refl _) run2.lt
              rw [unhide NO st (Nat.lt_of_lt_of_le run2.lt run2.le)] at x
              cases x
          · rcases unhide V2 with ⟨_, hno⟩ | ⟨st2, en2, b2, o2, run2, rfl, hv2⟩
            · exfalso
              have x := run1.within st (Nat.le_refl _) run1.lt
              rw [hno st (Nat.lt_of_lt_of_le run1.lt run1.le)] at x
              cases x
            · obtain ⟨rfl, rfl⟩ := Run.unique run1 run2
              have RUN := hide run1
              have l1 := run1.lt
              have l2 := run1.le
              clear V1 V2 run1 run2
              obtain ⟨d, rfl⟩ : ∃ d, en = st + d := ⟨en - st, by omega⟩
              rw [Nat.add_sub_cancel_left] at hv1 hv2
              subst hv1
              subst hv2
              go_wp2_with fail
              go_loopw [19] (fun i wr => ∃ m q : Nat, m ≤ d ∧ i = .int .i64 m ∧ wr = w6.drewN q) (fun i _ => d - (intOf i).toNat)
              case atStart => exact ⟨0, 0, by omega, rfl, rfl⟩
              case round =>
                obtain ⟨j, q, hjd, rfl, rfl⟩ := hrel
                by_cases hlt2 : j < d
                · obtain ⟨bb, oo, eq1, hb1, hc1⟩ := unhide R1 (by omega)
                  cases eq1
                  obtain ⟨x0, x1, x2, x3, x4⟩ := hc1 (st + j) (by omega)
                  obtain ⟨bb, oo, eq2, hb2, hc2⟩ := unhide R2 (by omega)
                  cases eq2
                  obtain ⟨y0, y1, y2, y3, y4⟩ := hc2 (st + j) (by omega)
                  have em1 : o1 + (st + j) * 5 = o1 + st * 5 + j * 5 := by omega
                  have em2 : o2 + (st + j) * 5 = o2 + st * 5 + j * 5 := by omega
                  rw [em1] at x0 x1 x2 x3 x4
                  rw [em2] at y0 y1 y2 y3 y4
                  clear hc1 hc2 em1 em2
                  have hw := (unhide RUN).within (st + j) (by omega) (by omega)
                  unfold ofB at hw
                  generalize L (st + j) = x at *
                  obtain ⟨xa, xs, xc, xd, xn⟩ := x
                  simp only [Bool.and_eq_true] at x0 x1 x2 x3 x4 y0 y1 y2 y3 y4 hw
                  obtain ⟨hw1, hw2⟩ := hw
                  have i1 : (0 : Int) ≤ (j : Int) := by omega
                  have i2 : (j : Int) < (d : Int) := by omega
                  have gt := Try.eqGuardType41
                  have sh := Try.stoodInHeld41
                  go_wp2
                  go_quiet (fail)
                  go_wp2
                  go_roundw
                  case rel => exact ⟨j + 1, _, by omega, by go_num, rfl⟩
                  case measure => simp [intOf]; omega
                · have q2 := fun w a n c => run_neq_slice_nil_any (P := Try.prog) w 27 41 a n c 0 0 Try.underlying27
                  have yes := anyB_yes ((unhide RUN).within st (Nat.le_refl _) (unhide RUN).lt) (Nat.lt_of_lt_of_le (unhide RUN).lt (unhide RUN).le)
                  have YES := hide yes
                  clear yes
                  go_wp2_with fail
                  have HA7 : Hid (LotsAt (w6.drewN q) (w6.drewN q).heap.size a k L) := HA6
                  have B7 : Hid (Below w.heap.size w (w6.drewN q)) := below_drewN (unhide B6) _
                  clear HA6 B6 R1 R2
                  generalize w6.drewN q = w7 at *
                  go_loop [20, 21] (fun f i => ∃ m : Nat, m ≤ k ∧ i = .int .i64 m ∧ f = .bool (anyB L s2 s3 m)) (fun _ i => k - (intOf i).toNat)
                  case atStart => exact ⟨0, by omega, rfl, rfl⟩
                  case round =>
                    obtain ⟨m, hmk, rfl, rfl⟩ := hrel
                    by_cases hlt3 : m < k
                    · obtain ⟨b, off, rfl, hb, hc'⟩ := unhide HA7 (by omega)
                      obtain ⟨_, g1, g2, _, _⟩ := hc' m hlt3
                      clear hc'
                      have AB : Hid (anyB L s2 s3 (m + 1) = (anyB L s2 s3 m || ((L m).s.toList == s2.toList && (L m).c.toList == s3.toList))) := rfl
                      generalize L m = x at g1 g2 AB
                      obtain ⟨xa, xs, xc, xd, xn⟩ := x
                      simp only at g1 g2 AB
                      generalize hz : anyB L s2 s3 m = z at *
                      have HZ := hide hz
                      clear hz
                      cases y1 : (xs.toList == s2.toList) <;> cases y2 : (xc.toList == s3.toList)
                      all_goals
                        go_wp2
                        go_round
                        case rel => exact ⟨m + 1, by omega, by go_num, by rw [unhide AB, y1, y2]; simp⟩
                        case measure => simp [intOf]; omega
                    · obtain rfl : m = k := by omega
                      have fin := unhide YES
                      go_wp2
                      go_ret
                      exact ⟨rfl, unhide B7⟩
    · have c1 : 65536 < s0.size ∨ 65536 < s1.size ∨ 65536 < s2.size ∨ 65536 < s3.size ∨ 65536 < s4.size ∨ 65536 < n := by omega
      clear c0
      go_wp2
      all_goals go_ret
      all_goals exact ⟨rfl, Below.refl _ _⟩
end Go.Proofs.Qxb6619464a

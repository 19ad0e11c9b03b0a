import Derived.Test.Qxb6619464aFirst
import Derived.LaidEql
namespace Go.Proofs.Qxb6619464a
open Go.ChangeShapes Go.WideShapes Go.RowKit

theorem Try.info3 : (Try.prog.info? 3).map (fun i => (i.zero, i.size, i.bytes)) = some (some (.int .i64 0), 1, 8) := by kernel_rfl

theorem neq_same (x : Addr) (w : World) : (binOp .neq 37 (.pointer (some x)) (.pointer (some x))).run Try.prog w = .ok (.bool false) w := by
  obtain ⟨i, hi, _⟩ := Option.map_eq_some_iff.1 Try.info41
  have h : ∀ d : Nat, (Op.equalIn (d + 1) 37 (.pointer (some x)) (.pointer (some x))).run Try.prog w = .ok true w := fun d => by
    simp [Op.equalIn, run_underlying Try.underlying37, sizeOf, typeInfo, hi, run_sameAddr_same]
  simp only [binOp]
  simp [Op.equal, Op.maxDepth, h 9999]

set_option maxRecDepth 100000 in
set_option maxHeartbeats 4000000 in
theorem first_law (s0 s1 s2 s3 : ByteArray) (a : Option Addr) (n c : Nat) (L : Nat → LotV) (w : World) (hs0 : s0.size ≤ 9223372036854775807) (hs1 : s1.size ≤ 9223372036854775807) (hs2 : s2.size ≤ 9223372036854775807) (hs3 : s3.size ≤ 9223372036854775807)
    (hn : n ≤ 9223372036854775807) (hk : ∀ j, (L j).a.size ≤ 9223372036854775807 ∧ (L j).s.size ≤ 9223372036854775807 ∧ (L j).c.size ≤ 9223372036854775807) (ha : a = none → n = 0) (hA : LotsAt w w.heap.size a n L) :
    Calls Try.prog 3 #[.string s0, .slice a n c, .string s1, .string s2, .string s3] w fun e w' => e = .returned (.bool true) ∧ Below w.heap.size w w' := by
  have H8 := hide (zz8 s0 s1 s2 s3 a n c L w hs0 hs1 hs2 hs3 hn hk hA)
  have HA := hide hA
  have HN := hide ha
  clear hA hk ha
  go_enter Try.func3, Try.ntmps3
  go_wp2_with fail
  refine (unhide H8).mono ?_
  rintro e w' ⟨bo, rfl, rfl, hP⟩
  clear H8
  cases bo with
  | false =>
    go_wp2
    go_ret
    exact ⟨rfl, Below.refl _ _⟩
  | true =>
    obtain ⟨p1, p2⟩ := hP rfl
    have HP := hide p2
    clear p2 hP
    by_cases c0 : s0.size ≤ 65536 ∧ s1.size ≤ 65536 ∧ s2.size ≤ 65536 ∧ s3.size ≤ 65536 ∧ n ≤ 65536
    · obtain ⟨c0, c1, c2, c3, c5⟩ := c0
      have d0 : decide ((65536 : Int) < (s0.size : Int)) = false := by simp; omega
      have d1 : decide ((65536 : Int) < (s1.size : Int)) = false := by simp; omega
      have d2 : decide ((65536 : Int) < (s2.size : Int)) = false := by simp; omega
      have d3 : decide ((65536 : Int) < (s3.size : Int)) = false := by simp; omega
      have d5 : decide ((65536 : Int) < (n : Int)) = false := by simp; omega
      go_wp2_with fail
      go_loopw [11, 12] (fun z i wr => ∃ k t q : Nat, k ≤ n ∧ i = .int .i64 k ∧ z = .int .i64 t ∧ t ≤ 1048576 ∧ wr = w.drewN q) (fun _ i _ => n - (intOf i).toNat)
      case atStart => exact ⟨0, s0.size + s1.size + s2.size + s3.size, 0, by omega, rfl, by go_num, by omega, rfl⟩
      case round =>
        obtain ⟨k, t, q, hkn, rfl, rfl, ht, rfl⟩ := hrel
        by_cases hlt : k < n
        · obtain ⟨b, off, rfl, hb, hc⟩ := unhide HA (by omega)
          obtain ⟨g0, g1, g2, _, _⟩ := hc k hlt
          have gk := unhide HP k hlt
          clear hc
          generalize L k = x at *
          obtain ⟨xa, xs, xc, xd, xn⟩ := x
          simp only at g0 g1 g2 gk
          have i1 : (0 : Int) ≤ (k : Int) := by omega
          have i2 : (k : Int) < (n : Int) := by omega
          by_cases h4 : t + (64 + xa.size + xs.size + xc.size) ≤ 1048576
          · go_wp2
            go_quiet (fail)
            go_wp2
            go_roundw
            case rel => exact ⟨k + 1, t + (64 + xa.size + xs.size + xc.size), _, by omega, by go_num, by go_num, h4, rfl⟩
            case measure => simp [intOf]; omega
          · go_wp2
            go_quiet (fail)
            go_wp2
            go_ret
            exact ⟨rfl, below_drewN (Below.refl _ _) _⟩
        · obtain rfl : k = n := by omega
          have HA0 : Hid (LotsAt (w.drewN q) (w.drewN q).heap.size a k L) := HA
          have B0 : Hid (Below w.heap.size w (w.drewN q)) := below_drewN (Below.refl _ _) _
          have H0 := hide (toLots a k c L (w.drewN q) (by omega) (unhide HN) (unhide HA0))
          go_wp2_with fail
          generalize w.drewN q = w0 at *
          refine (unhide H0).mono ?_
          rintro e w1 ⟨r1, rfl, hb1, hl1⟩
          have B1 : Hid (Below w.heap.size w w1) := Below.on (unhide B0) hb1
          have HA1 : Hid (LotsAt w1 w1.heap.size a k L) := (unhide HA0).later hb1 hb1.size
          have N1 := hide (ent_new s0 hl1)
          clear H0 hb1 hl1 HA0 B0 HA
          go_wp2_with fail
          have En1 := hide (unhide N1).1
          have B2 := hide (Below.on (unhide B1) (unhide N1).2)
          have HA2 := hide ((unhide HA1).later (unhide N1).2 (unhide N1).2.size)
          clear N1 B1 HA1
          generalize w1.alloc (.cells #[.string s0, .slice r1 k k, .slice none 0 0, .slice none 0 0] 32) = w2 at *
          generalize w1.heap.size = e1 at *
          refine (zzLotsOf e1 k r1 s1 s2 s3 L w2 (by omega) (unhide En1).lt (unhide En1).cell (unhide En1).lots).mono ?_
          rintro e w5 ⟨v1, rfl, hv1, hb5⟩
          have B5 := hide (Below.on (unhide B2) hb5)
          have En5 := hide ((unhide En1).later hb5)
          have HA5 := hide ((unhide HA2).later hb5 hb5.size)
          have V1 := hide hv1
          clear hb5 hv1 B2 En1 HA2
          obtain ⟨i0, hi, hz0, hz1, hz2⟩ := info_parts Try.info3
          obtain ⟨w6, hmk, hown6, hg6⟩ := run_make_own (P := Try.prog) w5 w5.heap.size 36 3 i0 (.int .i64 0) 1 Try.underlying36 hi hz0 hz1 .i64 .i64 k (by rw [hz2]; omega) (by unfold maxLen; omega) (Nat.le_refl _)
          have OW := hide hown6
          have B6 : Hid (Below w5.heap.size w5 w6) := (Below.refl _ _).grown hg6 (Nat.le_refl _) (fun k h => by cases h)
          clear hown6 hg6
          go_wp2_with fail
          clear hmk
          have HI := hide hi
          have HZ0 := hide hz0
          have HZ1 := hide hz1
          have HZ2 := hide hz2
          clear hi hz0 hz1 hz2
          go_loopw [15, 16] (fun v i wr => ∃ m : Nat, m ≤ k ∧ i = .int .i64 m ∧ wr.ownsRow w5.heap.size 3 1 v (posL L s2 s3 m).length (posV L s2 s3 m) ∧ Below w5.heap.size w5 wr) (fun _ i _ => k - (intOf i).toNat)
          case atStart => exact ⟨0, by omega, rfl, unhide OW, unhide B6⟩
          case round =>
            clear OW B6
            obtain ⟨m, hmk, rfl, hown, hbel⟩ := hrel
            have OW := hide hown
            have BE := hide hbel
            have zb := hbel.size
            have pl := posL_le L s2 s3 m
            clear hown hbel
            by_cases hlt3 : m < k
            · obtain ⟨b, off, rfl, hb, hc'⟩ := unhide HA5 (by omega)
              have g1 := ((unhide BE).cell (p := ⟨b, off + m * 5 + 1, none⟩) hb).trans (hc' m hlt3).2.1
              have g2 := ((unhide BE).cell (p := ⟨b, off + m * 5 + 2, none⟩) hb).trans (hc' m hlt3).2.2.1
              clear hc'
              have OB : Hid (ofB (L m) s2 s3 = ((L m).s.toList == s2.toList && (L m).c.toList == s3.toList)) := rfl
              generalize (L m).s = xs at *
              generalize (L m).c = xc at *
              cases y1 : (xs.toList == s2.toList)
              · have om : ofB (L m) s2 s3 = false := by rw [unhide OB, y1]; rfl
                go_wp2
                go_roundw
                case rel => exact ⟨m + 1, by omega, by go_num, by rw [(posV_miss om).1, (posV_miss om).2]; exact unhide OW, unhide BE⟩
                case measure => simp [intOf]; omega
              cases y2 : (xc.toList == s3.toList)
              · have om : ofB (L m) s2 s3 = false := by rw [unhide OB, y1, y2]; rfl
                go_wp2
                go_roundw
                case rel => exact ⟨m + 1, by omega, by go_num, by rw [(posV_miss om).1, (posV_miss om).2]; exact unhide OW, unhide BE⟩
                case measure => simp [intOf]; omega
              · have om : ofB (L m) s2 s3 = true := by rw [unhide OB, y1, y2]; rfl
                have OM := hide om
                clear om
                have own := unhide OW
                go_wp2_with (at_builtin; refine wpList_append_own _ rfl _ _ 36 rfl w5.heap.size 3 i0 (.int .i64 0) 1 8 Try.underlying36 (unhide HI) (unhide HZ0) (unhide HZ1) (unhide HZ2) rfl (by decide) _ _ _ rfl (own.alloc _) ⟨wr.heap.size, 0, none⟩ 1 1 [.int .i64 (m : Int)] rfl rfl (cell_one_new _ _ _) (ints_oneCell .i64 [(m : Int)]) ?c3 ?c4 ?c5 ?_)
                case c3 => unfold maxLen; omega
                case c4 => omega
                case c5 => simp; omega
                intro v' w7 hown' hgrow _
                have OW' := hide hown'
                have BE' : Hid (Below w5.heap.size w5 w7) := ((unhide BE).alloc zb _).grown hgrow (by simp; omega) (fun j hj => (own.lt j hj).1)
                clear hown' hgrow own OW BE g1 g2
                go_wp2
                go_roundw
                case rel => exact ⟨m + 1, by omega, by go_num, by rw [(posV_hit (unhide OM)).1, (posV_hit (unhide OM)).2]; exact unhide OW', unhide BE'⟩
                case measure => simp [intOf]; omega
            · obtain rfl : m = k := by omega
              rcases unhide V1 with ⟨rfl, hno⟩ | ⟨st, en, b1, o1, run1, rfl, hv1⟩
              · have q1 := fun w a n c => Lib.run_eql_slice_nil (P := Try.prog) w 27 41 a n c 0 0 Try.underlying27
                have own := unhide OW
                rw [posL_no hno] at own
                clear V1 hno
                rcases own.2 with ⟨rfl, _⟩ | ⟨g, cap, cur, rfl, _⟩
                · clear own OW
                  go_wp2
                  go_ret
                  exact ⟨rfl, Below.on (unhide B5) (unhide BE)⟩
                · clear own OW
                  go_wp2
                  go_ret
                  exact ⟨rfl, Below.on (unhide B5) (unhide BE)⟩
              · obtain ⟨d, rfl⟩ : ∃ d, en = st + d := ⟨en - st, by have := run1.lt; omega⟩
                rw [Nat.add_sub_cancel_left] at hv1
                subst hv1
                obtain ⟨f1, f2, f3⟩ := posL_run run1
                have l1 := run1.lt
                have l2 := run1.le
                obtain ⟨g, cap, rfl, hbg, hgl⟩ := (unhide OW).form (by omega)
                have own := unhide OW
                have c0 : wr.cell? ⟨g, 0, none⟩ = some (.int .i64 (st : Int)) := by
                  rw [own.cellAt 0 (by omega)]
                  have := f2 0 (by omega)
                  simp [posV, this]
                have cm : ∀ j, j < d → wr.cell? ⟨g, j, none⟩ = some (.int .i64 ((st : Int) + (j : Int))) := fun j hj => by
                  rw [own.cellAt j (by omega)]
                  have := f2 j hj
                  simp [posV, this]
                have cd : d < (posL L s2 s3 m).length → ∃ x : Int, wr.cell? ⟨g, d, none⟩ = some (.int .i64 x) ∧ (st : Int) + (d : Int) < x := fun hd => by
                  obtain ⟨x, h1, h2, _⟩ := f3 hd
                  refine ⟨(x : Int), ?_, by omega⟩
                  rw [own.cellAt d (by omega)]
                  simp [posV, h1]
                have En7 := hide ((unhide En5).later (unhide BE))
                have HA7 := hide ((unhide HA5).later (unhide BE) (unhide BE).size)
                have B7 := hide (Below.on (unhide B5) (unhide BE))
                have CM := hide cm
                have CD := hide cd
                have RUN := hide run1
                clear V1 run1 OW own f2 f3 cm cd BE En5 HA5 B5 hbg HP HI HZ0 HZ1 HZ2
                generalize (posL L s2 s3 m).length = N at *
                have nz : ((N : Int) == 0) = false := by rw [beq_eq_false_iff_ne]; omega
                go_wp2_with fail
                go_loopw [17] (fun i wq => ∃ r q : Nat, 1 ≤ r ∧ r ≤ d ∧ i = .int .i64 r ∧ wq = wr.drewN q) (fun i _ => d - (intOf i).toNat)
                case atStart => exact ⟨1, 0, by omega, by omega, rfl, rfl⟩
                case round =>
                  obtain ⟨r, q2, hr1, hrd, rfl, rfl⟩ := hrel
                  have i1 : (0 : Int) ≤ (r : Int) := by omega
                  by_cases hrlt : r < d
                  · have i2 : (r : Int) < (N : Int) := by omega
                    have i4 : (0 : Int) < (N : Int) := by omega
                    have i3 : decide ((r : Int) < (N : Int)) = true := by simp; omega
                    have i5 : IntKind.i64.wrap ((st : Int) + (r : Int)) = (st : Int) + (r : Int) := by rw [IntKind.wrap_i64]; omega
                    have cr := unhide CM r hrlt
                    go_wp2
                    go_quiet (fail)
                    go_wp2
                    go_roundw
                    case rel => exact ⟨r + 1, _, by omega, by omega, by go_num, rfl⟩
                    case measure => simp [intOf]; omega
                  · obtain rfl : r = d := by omega
                    have i4 : (0 : Int) < (N : Int) := by omega
                    have i5 : IntKind.i64.wrap ((st : Int) + (r : Int)) = (st : Int) + (r : Int) := by rw [IntKind.wrap_i64]; omega
                    have key : decide ((r : Int) < (N : Int)) = false ∨ (decide ((r : Int) < (N : Int)) = true ∧ ∃ x : Int, wr.cell? ⟨g, r, none⟩ = some (.int .i64 x) ∧ (x == (st : Int) + (r : Int)) = false) := by
                      by_cases hN : r < N
                      · obtain ⟨x, h1, h2⟩ := unhide CD hN
                        exact .inr ⟨by simp; omega, x, h1, by rw [beq_eq_false_iff_ne]; omega⟩
                      · exact .inl (by simp; omega)
                    rcases key with dN | ⟨dN, x, cx, hx⟩
                    · have dM : decide (r < N) = false := by simp at dN ⊢; omega
                      have dP : N ≤ r := by simpa using dM
                      go_wp2
                      go_quiet (fail)
                      go_wp2
                      have B8 : Hid (Below w.heap.size w (wr.drewN (q2 + nq))) := below_drewN (unhide B7) _
                      have En8 : Hid (Ent (wr.drewN (q2 + nq)) e1 (some ⟨b1, o1, none⟩) m L) := (unhide En7).later (below_drewN (Below.refl _ _) _)
                      have HA8 : Hid (LotsAt (wr.drewN (q2 + nq)) (wr.drewN (q2 + nq)).heap.size a m L) := HA7
                      have k0 : (wr.drewN (q2 + nq)).cell? ⟨g, 0, none⟩ = some (.int .i64 (st : Int)) := c0
                      have gl8 : g < (wr.drewN (q2 + nq)).heap.size := hgl
                      have k1 := (unhide En8).cell
                      clear B7 En7 HA7 CM CD c0 hgl
                      generalize wr.drewN (q2 + nq) = w8 at *
                      have j1 : (0 : Int) < (r : Int) := by omega
                      have j1n : 0 < r := by omega
                      have j4n : 0 < N := by omega
                      have j2 : (0 : Int) ≤ (st : Int) := by omega
                      have j3 : (st : Int) < (m : Int) := by omega
                      have np := neq_same ⟨b1, o1 + st * 5, none⟩
                      go_quiet (fail)
                      go_wp2
                      clear np
                      have B9 : Hid (Below w.heap.size w (w8.drewN nq)) := below_drewN (unhide B8) _
                      have En9 : Hid (Ent (w8.drewN nq) e1 (some ⟨b1, o1, none⟩) m L) := (unhide En8).later (below_drewN (Below.refl _ _) _)
                      have HA9 : Hid (LotsAt (w8.drewN nq) (w8.drewN nq).heap.size a m L) := HA8
                      have K9 : Hid ((w8.drewN nq).cell? ⟨g, 0, none⟩ = some (.int .i64 (st : Int))) := k0
                      have gl9 : g < (w8.drewN nq).heap.size := gl8
                      clear B8 En8 HA8 k0 k1 gl8
                      generalize w8.drewN nq = w9 at *
                      go_loopw [18] (fun i wq => ∃ j : Nat, j ≤ r ∧ i = .int .i64 j ∧ Below w9.heap.size w9 wq) (fun i _ => r - (intOf i).toNat)
                      case atStart => exact ⟨0, by omega, rfl, Below.refl _ _⟩
                      case round =>
                        obtain ⟨j, hjr, rfl, hbel⟩ := hrel
                        by_cases hjlt : j < r
                        · obtain ⟨bb, oo, eq1, hb1, hc1⟩ := (unhide En9).lots (by omega)
                          cases eq1
                          obtain ⟨x0, x1, x2, x3, x4⟩ := hc1 (st + j) (by omega)
                          obtain ⟨b, off, rfl, hb2, hc2⟩ := unhide HA9 (by omega)
                          obtain ⟨y0, y1, y2, y3, y4⟩ := hc2 (st + j) (by omega)
                          have em1 : o1 + (st + j) * 5 = o1 + st * 5 + j * 5 := by omega
                          rw [em1] at x0 x1 x2 x3 x4
                          have k0 := (hbel.cell (p := ⟨g, 0, none⟩) gl9).trans (unhide K9)
                          have x0 := (hbel.cell (p := ⟨b1, o1 + st * 5 + j * 5, none⟩) hb1).trans x0
                          have x1 := (hbel.cell (p := ⟨b1, o1 + st * 5 + j * 5 + 1, none⟩) hb1).trans x1
                          have x2 := (hbel.cell (p := ⟨b1, o1 + st * 5 + j * 5 + 2, none⟩) hb1).trans x2
                          have x3 := (hbel.cell (p := ⟨b1, o1 + st * 5 + j * 5 + 3, none⟩) hb1).trans x3
                          have x4 := (hbel.cell (p := ⟨b1, o1 + st * 5 + j * 5 + 4, none⟩) hb1).trans x4
                          have y0 := (hbel.cell (p := ⟨b, off + (st + j) * 5, none⟩) hb2).trans y0
                          have y1 := (hbel.cell (p := ⟨b, off + (st + j) * 5 + 1, none⟩) hb2).trans y1
                          have y2 := (hbel.cell (p := ⟨b, off + (st + j) * 5 + 2, none⟩) hb2).trans y2
                          have y3 := (hbel.cell (p := ⟨b, off + (st + j) * 5 + 3, none⟩) hb2).trans y3
                          have y4 := (hbel.cell (p := ⟨b, off + (st + j) * 5 + 4, none⟩) hb2).trans y4
                          have BE9 := hide hbel
                          have zz := hbel.size
                          clear hc1 hc2 em1 hbel
                          have SL := hide (fun w => sameLot (L (st + j)) w)
                          generalize L (st + j) = y at x0 x1 x2 x3 x4 y0 y1 y2 y3 y4 SL
                          obtain ⟨ya, ys, yc, yd, yn⟩ := y
                          simp only at x0 x1 x2 x3 x4 y0 y1 y2 y3 y4
                          have t1 : (0 : Int) ≤ (j : Int) := by omega
                          have t2 : (j : Int) < (r : Int) := by omega
                          have t3 : (0 : Int) ≤ (st : Int) + (j : Int) := by omega
                          have t4 : (st : Int) + (j : Int) < (m : Int) := by omega
                          have t5 : IntKind.i64.wrap ((st : Int) + (j : Int)) = (st : Int) + (j : Int) := by rw [IntKind.wrap_i64]; omega
                          have t6 : ((st : Int) + (j : Int)).toNat = st + j := by omega
                          go_wp2
                          go_region_held3 (fun w' => w'.cell? ⟨g, 0, none⟩ = some (.int .i64 (st : Int)) ∧ w'.cell? ⟨b1, o1 + st * 5 + j * 5, none⟩ = some (.string ya) ∧ w'.cell? ⟨b1, o1 + st * 5 + j * 5 + 1, none⟩ = some (.string ys) ∧ w'.cell? ⟨b1, o1 + st * 5 + j * 5 + 2, none⟩ = some (.string yc) ∧ w'.cell? ⟨b1, o1 + st * 5 + j * 5 + 3, none⟩ = some (.int .i32 yd) ∧ w'.cell? ⟨b1, o1 + st * 5 + j * 5 + 4, none⟩ = some (.int .i64 yn) ∧ w'.cell? ⟨b, off + (st + j) * 5, none⟩ = some (.string ya) ∧ w'.cell? ⟨b, off + (st + j) * 5 + 1, none⟩ = some (.string ys) ∧ w'.cell? ⟨b, off + (st + j) * 5 + 2, none⟩ = some (.string yc) ∧ w'.cell? ⟨b, off + (st + j) * 5 + 3, none⟩ = some (.int .i32 yd) ∧ w'.cell? ⟨b, off + (st + j) * 5 + 4, none⟩ = some (.int .i64 yn)) (go_keep)
                            (first | (go_at_call 11; refine (unhide SL _).mono ?_; rintro e w10 ⟨rfl, hb10⟩; have z0 := cell_later hb10 (by exact k0); have z1 := cell_later hb10 (by exact x0); have z2 := cell_later hb10 (by exact x1); have z3 := cell_later hb10 (by exact x2); have z4 := cell_later hb10 (by exact x3); have z5 := cell_later hb10 (by exact x4); have z6 := cell_later hb10 (by exact y0); have z7 := cell_later hb10 (by exact y1); have z8 := cell_later hb10 (by exact y2); have z9 := cell_later hb10 (by exact y3); have z10 := cell_later hb10 (by exact y4)))
                          have BE10 : Hid (Below w9.heap.size w9 w10) := (unhide BE9).drew.trans (hb10.mono (by simpa using zz))
                          clear hb10 z0 z1 z2 z3 z4 z5 z6 z7 z8 z9 z10 x0 x1 x2 x3 x4 y0 y1 y2 y3 y4 k0 BE9 zz
                          go_wp2
                          go_roundw
                          case rel => exact ⟨j + 1, by omega, by go_num, unhide BE10⟩
                          case measure => simp [intOf]; omega
                        · go_wp2
                          go_ret
                          exact ⟨rfl, Below.on (unhide B9) hbel⟩
                    · have i2 : (r : Int) < (N : Int) := by simpa using dN
                      go_wp2
                      go_quiet (fail)
                      go_wp2
                      clear cx
                      have B8 : Hid (Below w.heap.size w (wr.drewN (q2 + nq))) := below_drewN (unhide B7) _
                      have En8 : Hid (Ent (wr.drewN (q2 + nq)) e1 (some ⟨b1, o1, none⟩) m L) := (unhide En7).later (below_drewN (Below.refl _ _) _)
                      have HA8 : Hid (LotsAt (wr.drewN (q2 + nq)) (wr.drewN (q2 + nq)).heap.size a m L) := HA7
                      have k0 : (wr.drewN (q2 + nq)).cell? ⟨g, 0, none⟩ = some (.int .i64 (st : Int)) := c0
                      have gl8 : g < (wr.drewN (q2 + nq)).heap.size := hgl
                      have k1 := (unhide En8).cell
                      clear B7 En7 HA7 CM CD c0 hgl
                      generalize wr.drewN (q2 + nq) = w8 at *
                      have j1 : (0 : Int) < (r : Int) := by omega
                      have j1n : 0 < r := by omega
                      have j4n : 0 < N := by omega
                      have j2 : (0 : Int) ≤ (st : Int) := by omega
                      have j3 : (st : Int) < (m : Int) := by omega
                      have np := neq_same ⟨b1, o1 + st * 5, none⟩
                      go_quiet (fail)
                      go_wp2
                      clear np
                      have B9 : Hid (Below w.heap.size w (w8.drewN nq)) := below_drewN (unhide B8) _
                      have En9 : Hid (Ent (w8.drewN nq) e1 (some ⟨b1, o1, none⟩) m L) := (unhide En8).later (below_drewN (Below.refl _ _) _)
                      have HA9 : Hid (LotsAt (w8.drewN nq) (w8.drewN nq).heap.size a m L) := HA8
                      have K9 : Hid ((w8.drewN nq).cell? ⟨g, 0, none⟩ = some (.int .i64 (st : Int))) := k0
                      have gl9 : g < (w8.drewN nq).heap.size := gl8
                      clear B8 En8 HA8 k0 k1 gl8
                      generalize w8.drewN nq = w9 at *
                      go_loopw [18] (fun i wq => ∃ j : Nat, j ≤ r ∧ i = .int .i64 j ∧ Below w9.heap.size w9 wq) (fun i _ => r - (intOf i).toNat)
                      case atStart => exact ⟨0, by omega, rfl, Below.refl _ _⟩
                      case round =>
                        obtain ⟨j, hjr, rfl, hbel⟩ := hrel
                        by_cases hjlt : j < r
                        · obtain ⟨bb, oo, eq1, hb1, hc1⟩ := (unhide En9).lots (by omega)
                          cases eq1
                          obtain ⟨x0, x1, x2, x3, x4⟩ := hc1 (st + j) (by omega)
                          obtain ⟨b, off, rfl, hb2, hc2⟩ := unhide HA9 (by omega)
                          obtain ⟨y0, y1, y2, y3, y4⟩ := hc2 (st + j) (by omega)
                          have em1 : o1 + (st + j) * 5 = o1 + st * 5 + j * 5 := by omega
                          rw [em1] at x0 x1 x2 x3 x4
                          have k0 := (hbel.cell (p := ⟨g, 0, none⟩) gl9).trans (unhide K9)
                          have x0 := (hbel.cell (p := ⟨b1, o1 + st * 5 + j * 5, none⟩) hb1).trans x0
                          have x1 := (hbel.cell (p := ⟨b1, o1 + st * 5 + j * 5 + 1, none⟩) hb1).trans x1
                          have x2 := (hbel.cell (p := ⟨b1, o1 + st * 5 + j * 5 + 2, none⟩) hb1).trans x2
                          have x3 := (hbel.cell (p := ⟨b1, o1 + st * 5 + j * 5 + 3, none⟩) hb1).trans x3
                          have x4 := (hbel.cell (p := ⟨b1, o1 + st * 5 + j * 5 + 4, none⟩) hb1).trans x4
                          have y0 := (hbel.cell (p := ⟨b, off + (st + j) * 5, none⟩) hb2).trans y0
                          have y1 := (hbel.cell (p := ⟨b, off + (st + j) * 5 + 1, none⟩) hb2).trans y1
                          have y2 := (hbel.cell (p := ⟨b, off + (st + j) * 5 + 2, none⟩) hb2).trans y2
                          have y3 := (hbel.cell (p := ⟨b, off + (st + j) * 5 + 3, none⟩) hb2).trans y3
                          have y4 := (hbel.cell (p := ⟨b, off + (st + j) * 5 + 4, none⟩) hb2).trans y4
                          have BE9 := hide hbel
                          have zz := hbel.size
                          clear hc1 hc2 em1 hbel
                          have SL := hide (fun w => sameLot (L (st + j)) w)
                          generalize L (st + j) = y at x0 x1 x2 x3 x4 y0 y1 y2 y3 y4 SL
                          obtain ⟨ya, ys, yc, yd, yn⟩ := y
                          simp only at x0 x1 x2 x3 x4 y0 y1 y2 y3 y4
                          have t1 : (0 : Int) ≤ (j : Int) := by omega
                          have t2 : (j : Int) < (r : Int) := by omega
                          have t3 : (0 : Int) ≤ (st : Int) + (j : Int) := by omega
                          have t4 : (st : Int) + (j : Int) < (m : Int) := by omega
                          have t5 : IntKind.i64.wrap ((st : Int) + (j : Int)) = (st : Int) + (j : Int) := by rw [IntKind.wrap_i64]; omega
                          have t6 : ((st : Int) + (j : Int)).toNat = st + j := by omega
                          go_wp2
                          go_region_held3 (fun w' => w'.cell? ⟨g, 0, none⟩ = some (.int .i64 (st : Int)) ∧ w'.cell? ⟨b1, o1 + st * 5 + j * 5, none⟩ = some (.string ya) ∧ w'.cell? ⟨b1, o1 + st * 5 + j * 5 + 1, none⟩ = some (.string ys) ∧ w'.cell? ⟨b1, o1 + st * 5 + j * 5 + 2, none⟩ = some (.string yc) ∧ w'.cell? ⟨b1, o1 + st * 5 + j * 5 + 3, none⟩ = some (.int .i32 yd) ∧ w'.cell? ⟨b1, o1 + st * 5 + j * 5 + 4, none⟩ = some (.int .i64 yn) ∧ w'.cell? ⟨b, off + (st + j) * 5, none⟩ = some (.string ya) ∧ w'.cell? ⟨b, off + (st + j) * 5 + 1, none⟩ = some (.string ys) ∧ w'.cell? ⟨b, off + (st + j) * 5 + 2, none⟩ = some (.string yc) ∧ w'.cell? ⟨b, off + (st + j) * 5 + 3, none⟩ = some (.int .i32 yd) ∧ w'.cell? ⟨b, off + (st + j) * 5 + 4, none⟩ = some (.int .i64 yn)) (go_keep)
                            (first | (go_at_call 11; refine (unhide SL _).mono ?_; rintro e w10 ⟨rfl, hb10⟩; have z0 := cell_later hb10 (by exact k0); have z1 := cell_later hb10 (by exact x0); have z2 := cell_later hb10 (by exact x1); have z3 := cell_later hb10 (by exact x2); have z4 := cell_later hb10 (by exact x3); have z5 := cell_later hb10 (by exact x4); have z6 := cell_later hb10 (by exact y0); have z7 := cell_later hb10 (by exact y1); have z8 := cell_later hb10 (by exact y2); have z9 := cell_later hb10 (by exact y3); have z10 := cell_later hb10 (by exact y4)))
                          have BE10 : Hid (Below w9.heap.size w9 w10) := (unhide BE9).drew.trans (hb10.mono (by simpa using zz))
                          clear hb10 z0 z1 z2 z3 z4 z5 z6 z7 z8 z9 z10 x0 x1 x2 x3 x4 y0 y1 y2 y3 y4 k0 BE9 zz
                          go_wp2
                          go_roundw
                          case rel => exact ⟨j + 1, by omega, by go_num, unhide BE10⟩
                          case measure => simp [intOf]; omega
                        · go_wp2
                          go_ret
                          exact ⟨rfl, Below.on (unhide B9) hbel⟩
    · have c1 : 65536 < s0.size ∨ 65536 < s1.size ∨ 65536 < s2.size ∨ 65536 < s3.size ∨ 65536 < n := by omega
      clear c0
      go_wp2
      all_goals go_ret
      all_goals exact ⟨rfl, Below.refl _ _⟩
end Go.Proofs.Qxb6619464a

import Derived.Test.Qxb6623333aSize
namespace Go.Proofs.Qxb6623333a
open Go.ChangeShapes Go.WideShapes Go.RowKit Go.Maps

def AnyBool (w : World) (e : Ending) (w' : World) : Prop := ∃ bo, e = .returned (.bool bo) ∧ w = w'

set_option maxRecDepth 100000 in
set_option maxHeartbeats 8000000 in
theorem bytes (r1 r2 : Option Addr) (n1 c1 n2 c2 : Nat) (i k : Int) (E : Nat → EV) (P : Nat → PV) (w : World) (hf1 : ElemsFit n1 E) (hf2 : PathsFit n2 P) (hA : ElemsAt w w.heap.size r1 n1 E) (hP : PathsAt w w.heap.size r2 n2 P) :
    Calls Try.prog 5 #[.slice r1 n1 c1, .slice r2 n2 c2, .int .i64 i, .int .i64 k] w (AnyBool w) := by
  have hn1 := hf1.1
  have hn2 := hf2.1
  have HF1 := hide hf1
  have HF2 := hide hf2
  have HA := hide hA
  have HP := hide hP
  clear hf1 hf2 hA hP
  by_cases h1 : n1 ≤ 1048576
  · have d1 : decide ((1048576 : Int) < (n1 : Int)) = false := by simp; omega
    go_enter Try.func5, Try.ntmps5
    go_wp2
    go_loop [9, 10] (fun z i => ∃ k t : Nat, k ≤ n1 ∧ i = .int .i64 k ∧ z = .int .i64 t ∧ t ≤ 1048576) (fun _ i => n1 - (intOf i).toNat)
    case atStart => exact ⟨0, n1, by omega, rfl, by go_num, by omega⟩
    case round =>
      as_aux_lemma =>
        obtain ⟨k, t, hk, rfl, rfl, ht⟩ := hrel
        by_cases hlt : k < n1
        · obtain ⟨b, off, rfl, hb, hc⟩ := (unhide HA).1 (by omega)
          obtain ⟨g0, g1, g2⟩ := hc k hlt
          have ev := (unhide HA).2 k hlt
          obtain ⟨q0, q1, q2, q3, q4⟩ := (unhide HF1).2 k
          clear hc
          generalize E k = x at *
          have EVX := hide ev
          have Q3 := hide q3
          have Q4 := hide q4
          clear ev q3 q4
          by_cases h2 : t + x.nm.size + x.kl ≤ 1048576
          · have e1 : decide ((1048576 : Int) < (x.nm.size : Int)) = false := by simp; omega
            have e2 : decide ((1048576 : Int) < (t : Int) + (x.nm.size : Int)) = false := by simp; omega
            have e3 : decide ((1048576 : Int) < (x.kl : Int)) = false := by simp; omega
            have e4 : decide ((1048576 : Int) < (t : Int) + (x.nm.size : Int) + (x.kl : Int)) = false := by simp; omega
            go_wp2
            go_loop [9, 11] (fun z i => ∃ j t2 : Nat, j ≤ x.kl ∧ i = .int .i64 j ∧ z = .int .i64 t2 ∧ t2 ≤ 1048576) (fun _ i => x.kl - (intOf i).toNat)
            case atStart => exact ⟨0, t + x.nm.size + x.kl, by omega, rfl, by go_num, by omega⟩
            case round =>
              as_aux_lemma =>
                obtain ⟨j, t2, hj, rfl, rfl, ht2⟩ := hrel
                by_cases hjl : j < x.kl
                · obtain ⟨sb, so, es, hsb, hsc⟩ := (unhide EVX).k (by omega)
                  have gs := hsc j hjl
                  have gl := unhide Q3 j
                  clear hsc
                  rw [es] at g1
                  generalize x.kf j = sj at *
                  have ES := hide es
                  clear es
                  by_cases h9 : t2 + sj.size ≤ 1048576
                  · as_aux_lemma =>
                      go_wp2
                      go_round
                      case rel => exact ⟨j + 1, t2 + sj.size, by omega, by go_num, by go_num, h9⟩
                      case measure => simp [intOf]; omega
                  · as_aux_lemma =>
                      go_wp2
                      all_goals (go_ret; exact ⟨_, rfl, rfl⟩)
                · skip
                  by_cases h3 : t2 + x.vl ≤ 1048576
                  · have e5 : decide ((1048576 : Int) < (x.vl : Int)) = false := by simp; omega
                    have e6 : decide ((1048576 : Int) < (t2 : Int) + (x.vl : Int)) = false := by simp; omega
                    have T2 := hide ht2
                    clear ht2
                    generalize ht2x : t2 = tt at *
                    clear ht2x
                    go_wp2
                    go_loop [9, 12] (fun z i => ∃ j t2 : Nat, j ≤ x.vl ∧ i = .int .i64 j ∧ z = .int .i64 t2 ∧ t2 ≤ 1048576) (fun _ i => x.vl - (intOf i).toNat)
                    case atStart => exact ⟨0, tt + x.vl, by omega, rfl, by go_num, by omega⟩
                    case round =>
                      as_aux_lemma =>
                        obtain ⟨j, t2, hj, rfl, rfl, ht2⟩ := hrel
                        by_cases hjl : j < x.vl
                        · obtain ⟨sb, so, es, hsb, hsc⟩ := (unhide EVX).v (by omega)
                          have gs := hsc j hjl
                          have gl := unhide Q4 j
                          clear hsc
                          rw [es] at g2
                          generalize x.vf j = sj at *
                          have ES := hide es
                          clear es
                          by_cases h9 : t2 + sj.size ≤ 1048576
                          · as_aux_lemma =>
                              go_wp2
                              go_round
                              case rel => exact ⟨j + 1, t2 + sj.size, by omega, by go_num, by go_num, h9⟩
                              case measure => simp [intOf]; omega
                          · as_aux_lemma =>
                              go_wp2
                              all_goals (go_ret; exact ⟨_, rfl, rfl⟩)
                        · skip
                          as_aux_lemma =>
                            go_wp2
                            go_round
                            case rel => exact ⟨k + 1, t2, by omega, by go_num, rfl, ht2⟩
                            case measure => simp [intOf]; omega
                  · as_aux_lemma =>
                      go_wp2
                      all_goals (go_ret; exact ⟨_, rfl, rfl⟩)
          · as_aux_lemma =>
              go_wp2
              all_goals (go_ret; exact ⟨_, rfl, rfl⟩)
        · obtain rfl : k = n1 := by omega
          clear hk hlt
          by_cases h7 : t + n2 ≤ 1048576
          · have d2 : decide ((1048576 : Int) < (n2 : Int)) = false := by simp; omega
            have d3 : decide ((1048576 : Int) < (t : Int) + (n2 : Int)) = false := by simp; omega
            go_wp2
            go_loop [9, 13] (fun z i => ∃ p u : Nat, p ≤ n2 ∧ i = .int .i64 p ∧ z = .int .i64 u ∧ u ≤ 1048576) (fun _ i => n2 - (intOf i).toNat)
            case atStart => exact ⟨0, t + n2, by omega, rfl, by go_num, by omega⟩
            case round =>
              as_aux_lemma =>
                obtain ⟨p, u, hp, rfl, rfl, hu⟩ := hrel
                by_cases hplt : p < n2
                · obtain ⟨pb, po, rfl, hpb, hpc⟩ := (unhide HP).1 (by omega)
                  obtain ⟨f0, f1⟩ := hpc p hplt
                  have pe := (unhide HP).2 p hplt
                  obtain ⟨pq0, pq1⟩ := (unhide HF2).2 p
                  clear hpc
                  generalize P p = y at *
                  have PE := hide pe
                  have PF := hide pq1
                  have pel := pq1.1
                  clear pe pq1
                  by_cases h8 : u + y.o.size + y.el ≤ 1048576
                  · have a1 : decide ((1048576 : Int) < (y.o.size : Int)) = false := by simp; omega
                    have a2 : decide ((1048576 : Int) < (u : Int) + (y.o.size : Int)) = false := by simp; omega
                    have a3 : decide ((1048576 : Int) < (y.el : Int)) = false := by simp; omega
                    have a4 : decide ((1048576 : Int) < (u : Int) + (y.o.size : Int) + (y.el : Int)) = false := by simp; omega
                    go_wp2
                    go_loop [9, 14] (fun z i => ∃ k t : Nat, k ≤ y.el ∧ i = .int .i64 k ∧ z = .int .i64 t ∧ t ≤ 1048576) (fun _ i => y.el - (intOf i).toNat)
                    case atStart => exact ⟨0, u + y.o.size + y.el, by omega, rfl, by go_num, by omega⟩
                    case round =>
                      as_aux_lemma =>
                        obtain ⟨k, t, hk, rfl, rfl, ht⟩ := hrel
                        by_cases hlt : k < y.el
                        · obtain ⟨b, off, ee, hb, hc⟩ := (unhide PE).1 (by omega)
                          rw [ee] at f1
                          have EE := hide ee
                          obtain ⟨g0, g1, g2⟩ := hc k hlt
                          have ev := (unhide PE).2 k hlt
                          obtain ⟨q0, q1, q2, q3, q4⟩ := (unhide PF).2 k
                          clear hc ee
                          generalize y.E k = x at *
                          have EVX := hide ev
                          have Q3 := hide q3
                          have Q4 := hide q4
                          clear ev q3 q4
                          by_cases h2 : t + x.nm.size + x.kl ≤ 1048576
                          · have e1 : decide ((1048576 : Int) < (x.nm.size : Int)) = false := by simp; omega
                            have e2 : decide ((1048576 : Int) < (t : Int) + (x.nm.size : Int)) = false := by simp; omega
                            have e3 : decide ((1048576 : Int) < (x.kl : Int)) = false := by simp; omega
                            have e4 : decide ((1048576 : Int) < (t : Int) + (x.nm.size : Int) + (x.kl : Int)) = false := by simp; omega
                            go_wp2
                            go_loop [9, 15] (fun z i => ∃ j t2 : Nat, j ≤ x.kl ∧ i = .int .i64 j ∧ z = .int .i64 t2 ∧ t2 ≤ 1048576) (fun _ i => x.kl - (intOf i).toNat)
                            case atStart => exact ⟨0, t + x.nm.size + x.kl, by omega, rfl, by go_num, by omega⟩
                            case round =>
                              as_aux_lemma =>
                                obtain ⟨j, t2, hj, rfl, rfl, ht2⟩ := hrel
                                by_cases hjl : j < x.kl
                                · obtain ⟨sb, so, es, hsb, hsc⟩ := (unhide EVX).k (by omega)
                                  have gs := hsc j hjl
                                  have gl := unhide Q3 j
                                  clear hsc
                                  rw [es] at g1
                                  generalize x.kf j = sj at *
                                  have ES := hide es
                                  clear es
                                  by_cases h9 : t2 + sj.size ≤ 1048576
                                  · as_aux_lemma =>
                                      go_wp2
                                      go_round
                                      case rel => exact ⟨j + 1, t2 + sj.size, by omega, by go_num, by go_num, h9⟩
                                      case measure => simp [intOf]; omega
                                  · as_aux_lemma =>
                                      go_wp2
                                      all_goals (go_ret; exact ⟨_, rfl, rfl⟩)
                                · skip
                                  by_cases h3 : t2 + x.vl ≤ 1048576
                                  · have e5 : decide ((1048576 : Int) < (x.vl : Int)) = false := by simp; omega
                                    have e6 : decide ((1048576 : Int) < (t2 : Int) + (x.vl : Int)) = false := by simp; omega
                                    have T2 := hide ht2
                                    clear ht2
                                    generalize ht2x : t2 = tt at *
                                    clear ht2x
                                    go_wp2
                                    go_loop [9, 16] (fun z i => ∃ j t2 : Nat, j ≤ x.vl ∧ i = .int .i64 j ∧ z = .int .i64 t2 ∧ t2 ≤ 1048576) (fun _ i => x.vl - (intOf i).toNat)
                                    case atStart => exact ⟨0, tt + x.vl, by omega, rfl, by go_num, by omega⟩
                                    case round =>
                                      as_aux_lemma =>
                                        obtain ⟨j, t2, hj, rfl, rfl, ht2⟩ := hrel
                                        by_cases hjl : j < x.vl
                                        · obtain ⟨sb, so, es, hsb, hsc⟩ := (unhide EVX).v (by omega)
                                          have gs := hsc j hjl
                                          have gl := unhide Q4 j
                                          clear hsc
                                          rw [es] at g2
                                          generalize x.vf j = sj at *
                                          have ES := hide es
                                          clear es
                                          by_cases h9 : t2 + sj.size ≤ 1048576
                                          · as_aux_lemma =>
                                              go_wp2
                                              go_round
                                              case rel => exact ⟨j + 1, t2 + sj.size, by omega, by go_num, by go_num, h9⟩
                                              case measure => simp [intOf]; omega
                                          · as_aux_lemma =>
                                              go_wp2
                                              all_goals (go_ret; exact ⟨_, rfl, rfl⟩)
                                        · skip
                                          as_aux_lemma =>
                                            go_wp2
                                            go_round
                                            case rel => exact ⟨k + 1, t2, by omega, by go_num, rfl, ht2⟩
                                            case measure => simp [intOf]; omega
                                  · as_aux_lemma =>
                                      go_wp2
                                      all_goals (go_ret; exact ⟨_, rfl, rfl⟩)
                          · as_aux_lemma =>
                              go_wp2
                              all_goals (go_ret; exact ⟨_, rfl, rfl⟩)
                        · go_wp2
                          go_round
                          case rel => exact ⟨p + 1, t, by omega, by go_num, rfl, ht⟩
                          case measure => simp [intOf]; omega
                  · go_wp2
                    all_goals (go_ret; exact ⟨_, rfl, rfl⟩)
                · go_wp2
                  go_ret
                  exact ⟨_, rfl, rfl⟩
          · go_wp2
            all_goals (go_ret; exact ⟨_, rfl, rfl⟩)
  · go_enter Try.func5, Try.ntmps5
    go_wp2
    all_goals (go_ret; exact ⟨_, rfl, rfl⟩)
end Go.Proofs.Qxb6623333a

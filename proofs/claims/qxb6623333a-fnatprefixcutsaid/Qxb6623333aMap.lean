import Derived.Test.Qxb6623333aSize
namespace Go.Proofs.Qxb6623333a
open Go.ChangeShapes Go.WideShapes Go.RowKit Go.Maps

theorem law9 : Keyed Try.prog 9 := string_keyed Try.underlying9

theorem min_run (ts : Array TypeId) (t : TypeId) (x y m : Int) (h : m = if y < x then y else x) (w : World) : (Builtin.min_ ts t #[.int .i64 x, .int .i64 y]).run Try.prog w = .ok (.int .i64 m) w := by
  rw [h]; exact run_min_int2 w ts t .i64 .i64 x y

theorem cnt_min (x : EV) : (x.cnt : Int) = if (x.vl : Int) < (x.kl : Int) then (x.vl : Int) else (x.kl : Int) := by
  unfold EV.cnt
  by_cases h : x.vl < x.kl
  · rw [if_pos h, if_pos (by omega)]
  · rw [if_neg h, if_neg (by omega)]

theorem ownsMap_lt {w : World} {b n : Nat} {k : TypeId} {R : Value → Option (DataW Unit × List MemPlace)} {D : DataW Unit} (h : w.ownsMap Try.prog k R b n D) : b < w.heap.size := by
  obtain ⟨es, cl, h1, _⟩ := h
  exact (Array.getElem?_eq_some_iff.1 h1).1

set_option maxHeartbeats 1000000 in
theorem zzMap (x : EV) (w : World) (hs : KeysSmall x) (hA : EVAt w w.heap.size x) :
    Calls Try.prog 15 #[.agg #[.string x.nm, .slice x.kr x.kl x.kc, .slice x.vr x.vl x.vc]] w fun e w' => ∃ m, e = .returned (.map m) ∧ Below w.heap.size w w' ∧ MapIs w' w'.heap.size m x := by
  have hm := fun ts t y => min_run ts t (x.kl : Int) (x.vl : Int) x.cnt (cnt_min x) y
  have hk := x.cnt_k
  have hv := x.cnt_v
  obtain ⟨hs1, hs2⟩ := hs
  have b0 : Below w.heap.size w (w.alloc (.cells #[.string x.nm, .slice x.kr x.kl x.kc, .slice x.vr x.vl x.vc] 43)) := (Below.refl _ _).alloc (Nat.le_refl _) _
  have c1 : (w.alloc (.cells #[.string x.nm, .slice x.kr x.kl x.kc, .slice x.vr x.vl x.vc] 43)).cell? ⟨w.heap.size, 1, none⟩ = some (.slice x.kr x.kl x.kc) := by rw [World.cell?_alloc_at _ _ _ _ rfl]; rfl
  have c2 : (w.alloc (.cells #[.string x.nm, .slice x.kr x.kl x.kc, .slice x.vr x.vl x.vc] 43)).cell? ⟨w.heap.size, 2, none⟩ = some (.slice x.vr x.vl x.vc) := by rw [World.cell?_alloc_at _ _ _ _ rfl]; rfl
  have z0 : (w.alloc (.cells #[.string x.nm, .slice x.kr x.kl x.kc, .slice x.vr x.vl x.vc] 43)).heap.size = w.heap.size + 1 := by simp
  have EVX := hide (hA.later b0 b0.size)
  have B0 := hide b0
  have C1 := hide c1
  have C2 := hide c2
  have Z0 := hide z0
  clear b0 c1 c2 z0 hA
  by_cases h0 : x.cnt = 0
  · have d0 : ((x.cnt : Int) == 0) = true := by rw [beq_iff_eq]; omega
    have H0 := hide h0
    clear h0
    go_enter Try.func15, Try.ntmps15
    go_wp2
    go_ret
    exact ⟨none, rfl, unhide B0, .inl ⟨unhide H0, rfl⟩⟩
  · have d0 : ((x.cnt : Int) == 0) = false := by rw [beq_eq_false_iff_ne]; omega
    have hmm := @run_makeMap Try.prog
    have o0 := World.ownsMap_made (H := Unit) (w.alloc (.cells #[.string x.nm, .slice x.kr x.kl x.kc, .slice x.vr x.vl x.vc] 43)) Try.prog 9 (plainElem Try.prog 9)
    rw [unhide Z0] at o0
    have O0 := hide o0
    have bm : Below (w.heap.size + 1) (w.alloc (.cells #[.string x.nm, .slice x.kr x.kl x.kc, .slice x.vr x.vl x.vc] 43)) ((w.alloc (.cells #[.string x.nm, .slice x.kr x.kl x.kc, .slice x.vr x.vl x.vc] 43)).alloc (.map #[] 0)) := (Below.refl _ _).alloc (by rw [unhide Z0]; exact Nat.le_refl _) _
    have BM := hide bm
    clear o0 bm
    go_enter Try.func15, Try.ntmps15
    go_wp2
    generalize (w.alloc (.cells #[.string x.nm, .slice x.kr x.kl x.kc, .slice x.vr x.vl x.vc] 43)).alloc (.map #[] 0) = w1 at *
    generalize w.alloc (.cells #[.string x.nm, .slice x.kr x.kl x.kc, .slice x.vr x.vl x.vc] 43) = w0 at *
    clear hmm hm
    go_loopw [5] (fun i wr => ∃ j : Nat, j ≤ x.cnt ∧ i = .int .i64 j ∧ wr.ownsMap Try.prog 9 (plainElem Try.prog 9) (w.heap.size + 1) j (DTo x j) ∧ Below (w.heap.size + 1) w0 wr) (fun i _ => x.cnt - (intOf i).toNat)
    case atStart => exact ⟨0, by omega, rfl, unhide O0, unhide BM⟩
    case round =>
      clear O0 BM
      obtain ⟨j, hj, rfl, hown, hbel⟩ := hrel
      have k1 := (hbel.cell (p := ⟨w.heap.size, 1, none⟩) (Nat.lt_succ_self _)).trans (unhide C1)
      have k2 := (hbel.cell (p := ⟨w.heap.size, 2, none⟩) (Nat.lt_succ_self _)).trans (unhide C2)
      have OW := hide hown
      have BE := hide hbel
      have zb := hbel.size
      rw [unhide Z0] at zb
      clear hown hbel
      by_cases hlt : j < x.cnt
      · obtain ⟨kb, ko, ek, hkb, hkc⟩ := (unhide EVX).k (by omega)
        obtain ⟨vb, vo, ev, hvb, hvc⟩ := (unhide EVX).v (by omega)
        rw [unhide Z0] at hkb hvb
        have gk := ((unhide BE).cell (p := ⟨kb, ko + j, none⟩) hkb).trans (hkc j (by omega))
        have gv := ((unhide BE).cell (p := ⟨vb, vo + j, none⟩) hvb).trans (hvc j (by omega))
        rw [ek] at k1
        rw [ev] at k2
        have EK := hide ek
        have EVV := hide ev
        clear hkc hvc ek ev
        obtain ⟨w2, hup, hown2, hgrow2⟩ := World.ownsMap.update (w := wr.drew) (unhide OW) law9 Try.underlying45 (by unfold maxLen; omega) (WideMaps.keyOf_string_mk (P := Try.prog) (k := 9) Try.underlying9 ((unhide EVX).ks j)) (plainElem_string Try.underlying9 ((unhide EVX).vs j))
        have O2 : Hid (w2.ownsMap Try.prog 9 (plainElem Try.prog 9) (w.heap.size + 1) (j + 1) (DTo x (j + 1))) := hown2
        have B2 : Hid (Below (w.heap.size + 1) w0 w2) := (unhide BE).drew.grown hgrow2 (by simpa using zb) (fun q hq => by cases hq; exact Nat.le_refl _)
        have keep : w2.cell? ⟨w.heap.size, 1, none⟩ = some (.slice (some ⟨kb, ko, none⟩) x.kl x.kc) ∧ w2.cell? ⟨w.heap.size, 2, none⟩ = some (.slice (some ⟨vb, vo, none⟩) x.vl x.vc) ∧ w2.cell? ⟨kb, ko + j, none⟩ = some (.string (x.kf j)) ∧ w2.cell? ⟨vb, vo + j, none⟩ = some (.string (x.vf j)) :=
          ⟨hgrow2.cell k1 (by simp), hgrow2.cell k2 (by simp), hgrow2.cell gk (by simp; omega), hgrow2.cell gv (by simp; omega)⟩
        obtain ⟨n1, n2, n3, n4⟩ := keep
        clear hown2 hgrow2
        have i1 : (0 : Int) ≤ (j : Int) := by omega
        have i2 : (j : Int) < (x.kl : Int) := by omega
        have i3 : (j : Int) < (x.vl : Int) := by omega
        generalize x.kf j = sk at *
        generalize x.vf j = sv at *
        go_wp2
        go_region_held3 (fun w' => w'.cell? ⟨w.heap.size, 1, none⟩ = some (.slice (some ⟨kb, ko, none⟩) x.kl x.kc) ∧ w'.cell? ⟨w.heap.size, 2, none⟩ = some (.slice (some ⟨vb, vo, none⟩) x.vl x.vc) ∧ w'.cell? ⟨kb, ko + j, none⟩ = some (.string sk) ∧ w'.cell? ⟨vb, vo + j, none⟩ = some (.string sv)) (go_keep) (fail)
        clear hup
        go_wp2
        go_roundw
        case rel => exact ⟨j + 1, by omega, by go_num, unhide O2, unhide B2⟩
        case measure => simp [intOf]; omega
      · obtain rfl : j = x.cnt := by omega
        go_wp2
        go_ret
        have hb2 := (unhide B0).trans ((unhide BE).mono (Nat.le_succ _))
        exact ⟨some (w.heap.size + 1), rfl, hb2, .inr ⟨by omega, w.heap.size + 1, rfl, ownsMap_lt (unhide OW), unhide OW⟩⟩
end Go.Proofs.Qxb6623333a

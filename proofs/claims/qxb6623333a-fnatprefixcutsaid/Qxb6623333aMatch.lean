import Derived.Test.Qxb6623333aMap
namespace Go.Proofs.Qxb6623333a
open Go.ChangeShapes Go.WideShapes Go.RowKit Go.Maps

theorem zero9 (w : World) : (zeroValue 9).run Try.prog w = .ok (.string ⟨#[]⟩) w := by kernel_rfl

theorem DTo_isMap (x : EV) : ∀ i, IsMap (DTo x i)
  | 0 => ⟨[], rfl⟩
  | i + 1 => (DTo_isMap x i).put _ _

theorem isKey_string (l : List UInt8) : WideAt.IsKeyLit (.string l) := by simp [WideAt.IsKeyLit]

theorem DTo_has (x : EV) {j : Nat} : ∀ {i : Nat}, j < i → Maps.has (DTo x i) (.string (x.kf j).data.toList) = true
  | i + 1, h => by
    by_cases e : (Lit.string (x.kf j).data.toList) = .string (x.kf i).data.toList
    · rw [e]
      exact has_put_same (DTo_isMap x i) (isKey_string _) _
    · show Maps.has ((DTo x i).put _ _) _ = true
      rw [has_put_other e]
      refine DTo_has x ?_
      rcases Nat.lt_or_ge j i with h1 | h1
      · exact h1
      · obtain rfl : j = i := by omega
        exact absurd rfl e

/-- one key, looked up in two maps that read alike: there, and the same string. -/
theorem look_two {w : World} {b1 b2 n1 n2 : Nat} {D : DataW Unit} (h1 : w.ownsMap Try.prog 9 (plainElem Try.prog 9) b1 n1 D) (h2 : w.ownsMap Try.prog 9 (plainElem Try.prog 9) b2 n2 D) (s : ByteArray) (hs : s.size ≤ maxLen) (hh : Maps.has D (.string s.data.toList) = true) :
    ∃ v : ByteArray, (Instr.lookup 45 (.map (some b1)) (.string s) true).run Try.prog w = .ok (.tuple #[.string v, .bool true]) w ∧ (Instr.lookup 45 (.map (some b2)) (.string s) false).run Try.prog w = .ok (.string v) w := by
  have hk := WideMaps.keyOf_string_mk (P := Try.prog) (k := 9) Try.underlying9 hs
  have hz : plainElem (H := Unit) Try.prog 9 (.string ⟨#[]⟩) = some (.lit (.string []), []) := plainElem_string Try.underlying9 (by decide)
  obtain ⟨v1, p1, r1, e1⟩ := h1.look_ok law9 Try.underlying45 (zero9 w) hz hk
  obtain ⟨v2, p2, r2, e2⟩ := h2.lookup law9 Try.underlying45 (zero9 w) hz hk
  rw [hh] at r1
  have key : ∀ (v : Value) (d : DataW Unit) p, plainElem Try.prog 9 v = some (d, p) → ∃ t : ByteArray, v = .string t ∧ d = .lit (.string t.data.toList) := by
    intro v d p h
    cases v <;> simp [plainElem, Try.underlying9] at h
    exact ⟨_, rfl, h.2.1.symm⟩
  obtain ⟨t1, rfl, f1⟩ := key _ _ _ e1
  obtain ⟨t2, rfl, f2⟩ := key _ _ _ e2
  rw [f1] at f2
  have : t1 = t2 := by
    injection f2 with f2
    injection f2 with f2
    cases t1; cases t2
    simp only at f2
    rw [ByteArray.mk.injEq]
    exact Array.toList_inj.1 f2
  subst this
  exact ⟨t1, r1, r2⟩

set_option maxHeartbeats 1000000 in
theorem elemMatches (x : EV) (m : Option Nat) (w : World) (hs : KeysSmall x) (hA : EVAt w w.heap.size x) (hM : MapIs w w.heap.size m x) :
    Calls Try.prog 16 #[.agg #[.string x.nm, .map m], .agg #[.string x.nm, .slice x.kr x.kl x.kc, .slice x.vr x.vl x.vc]] w fun e w' => e = .returned (.bool true) ∧ Below w.heap.size w w' := by
  have hm := fun ts t y => min_run ts t (x.kl : Int) (x.vl : Int) x.cnt (cnt_min x) y
  have hk := x.cnt_k
  have hv := x.cnt_v
  have z1 : (w.alloc (.cells #[.string x.nm, .map m] 48)).heap.size = w.heap.size + 1 := by simp
  have b2 : Below w.heap.size w ((w.alloc (.cells #[.string x.nm, .map m] 48)).alloc (.cells #[.string x.nm, .slice x.kr x.kl x.kc, .slice x.vr x.vl x.vc] 43)) := ((Below.refl _ _).alloc (Nat.le_refl _) _).alloc (by simp) _
  have hz := zzMap x ((w.alloc (.cells #[.string x.nm, .map m] 48)).alloc (.cells #[.string x.nm, .slice x.kr x.kl x.kc, .slice x.vr x.vl x.vc] 43)) hs (hA.later b2 b2.size)
  have c1 : ((w.alloc (.cells #[.string x.nm, .map m] 48)).alloc (.cells #[.string x.nm, .slice x.kr x.kl x.kc, .slice x.vr x.vl x.vc] 43)).cell? ⟨w.heap.size, 1, none⟩ = some (.map m) := by rw [World.cell?_alloc_past _ _ _ (by simp), World.cell?_alloc_at _ _ _ _ rfl]; rfl
  have c2 : ((w.alloc (.cells #[.string x.nm, .map m] 48)).alloc (.cells #[.string x.nm, .slice x.kr x.kl x.kc, .slice x.vr x.vl x.vc] 43)).cell? ⟨w.heap.size + 1, 1, none⟩ = some (.slice x.kr x.kl x.kc) := by rw [World.cell?_alloc_at _ _ _ _ (by simp)]; rfl
  have c3 : ((w.alloc (.cells #[.string x.nm, .map m] 48)).alloc (.cells #[.string x.nm, .slice x.kr x.kl x.kc, .slice x.vr x.vl x.vc] 43)).cell? ⟨w.heap.size + 1, 2, none⟩ = some (.slice x.vr x.vl x.vc) := by rw [World.cell?_alloc_at _ _ _ _ (by simp)]; rfl
  have z2 : w.heap.size + 2 ≤ ((w.alloc (.cells #[.string x.nm, .map m] 48)).alloc (.cells #[.string x.nm, .slice x.kr x.kl x.kc, .slice x.vr x.vl x.vc] 43)).heap.size := by simp
  have HZ := hide hz
  have B2 := hide b2
  have C1 := hide c1
  have C2 := hide c2
  have C3 := hide c3
  have Z2 := hide z2
  have M2 := hide (hM.later b2 b2.size)
  have E2 := hide (hA.later b2 b2.size)
  obtain ⟨hs1, hs2⟩ := hs
  clear hz b2 c1 c2 c3 z2 hM hA z1
  go_enter Try.func16, Try.ntmps16
  go_wp2_with fail
  generalize ((w.alloc (.cells #[.string x.nm, .map m] 48)).alloc (.cells #[.string x.nm, .slice x.kr x.kl x.kc, .slice x.vr x.vl x.vc] 43)) = w2 at *
  refine (unhide HZ).mono ?_
  rintro e w3 ⟨m2, rfl, hb3, hm3⟩
  have k1 := (hb3.cell (p := ⟨w.heap.size, 1, none⟩) (show w.heap.size < _ by have := unhide Z2; omega)).trans (unhide C1)
  have k2 := (hb3.cell (p := ⟨w.heap.size + 1, 1, none⟩) (show w.heap.size + 1 < _ by have := unhide Z2; omega)).trans (unhide C2)
  have k3 := (hb3.cell (p := ⟨w.heap.size + 1, 2, none⟩) (show w.heap.size + 1 < _ by have := unhide Z2; omega)).trans (unhide C3)
  have B3 : Hid (Below w.heap.size w w3) := (unhide B2).trans (hb3.mono (unhide B2).size)
  have M3 := hide ((unhide M2).later hb3 hb3.size)
  have N3 := hide hm3
  have E3 := hide ((unhide E2).later hb3 hb3.size)
  clear HZ hb3 hm3 C1 C2 C3 M2 E2 B2
  rcases unhide M3 with ⟨h0, rfl⟩ | ⟨h0, b1, rfl, hb1, ho1⟩
  · rcases unhide N3 with ⟨_, rfl⟩ | ⟨h0', _⟩
    · have l0 := fun ty w => Maps.len_nil (P := Try.prog) (w := w) (t := 45) Try.underlying45 ty
      have ec : (x.cnt : Int) = 0 := by omega
      have d1 : decide ((0 : Int) < (x.cnt : Int)) = false := by simp; omega
      have EC := hide ec
      clear ec h0
      go_wp2_with fail
      refine wp_loop_rounds 1 ?_
      rw [rounds_succ]
      go_wp2
      go_ret
      exact ⟨rfl, unhide B3⟩
    · omega
  · rcases unhide N3 with ⟨h0', _⟩ | ⟨_, b2, rfl, hb2, ho2⟩
    · omega
    · have l1 := fun ty => ho1.len (t := 45) Try.underlying45 ty
      have l2 := fun ty => ho2.len (t := 45) Try.underlying45 ty
      have O1 := hide ho1
      have O2 := hide ho2
      clear M3 N3 ho1 ho2
      go_wp2_with fail
      clear l1 l2
      go_loop [7] (fun i => ∃ j : Nat, j ≤ x.cnt ∧ i = .int .i64 j) (fun i => x.cnt - (intOf i).toNat)
      case atStart => exact ⟨0, by omega, rfl⟩
      case round =>
        obtain ⟨j, hj, rfl⟩ := hrel
        by_cases hlt : j < x.cnt
        · obtain ⟨kb, ko, ek, hkb, hkc⟩ := (unhide E3).k (by omega)
          have gk := hkc j (by omega)
          obtain ⟨v, g1, g2⟩ := look_two (unhide O1) (unhide O2) (x.kf j) ((unhide E3).ks j) (DTo_has x hlt)
          rw [ek] at k2
          have EK := hide ek
          clear hkc ek
          generalize x.kf j = sk at *
          go_wp2
          go_round
          case rel => exact ⟨j + 1, by omega, by go_num⟩
          case measure => simp [intOf]; omega
        · go_wp2
          go_ret
          exact ⟨rfl, unhide B3⟩
end Go.Proofs.Qxb6623333a

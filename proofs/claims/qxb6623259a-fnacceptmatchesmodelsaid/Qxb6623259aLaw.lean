import Derived.Test.Qxb6623259aModel
namespace Go.Proofs.Qxb6623259a
open Go.ChangeShapes Go.WideShapes Go.RowKit Go.Maps

theorem make_hint (n : Nat) (w : World) : (Instr.makeMap 27 (some (.int .i64 (n : Int)))).run Try.prog w = .ok (.map (some w.heap.size)) (w.alloc (.map #[] 0)) := by
  simp [Instr.makeMap, asInt, asIntOf]

set_option maxHeartbeats 400000 in
theorem model (bm n hi c : Nat) (have' : Bool) (D : DataW Unit) (w : World) (hown : w.ownsMap Try.prog 24 (plainElem Try.prog 4) bm n D) (hc : c < 18446744073709551616) (hh : hi < 18446744073709551616) :
    Calls Try.prog 5 #[.map (some bm), .bool have', .int .u64 (hi : Int), .int .u64 (c : Int)] w fun e w' => e = .returned (.bool (wantB (!have') (seenD D) hi c)) ∧ w = w' := by
  have look := seen_lookup hown c hc
  clear hown
  have s1 : IntKind.u64.wrap ((hi : Int) - (c : Int)) = ((hi : Int) - (c : Int)) % 18446744073709551616 := by rw [IntKind.wrap_u64]
  cases have' with
  | false =>
    clear s1
    go_enter Try.func5, Try.ntmps5
    go_wp2
    go_ret
    exact ⟨by simp [wantB], rfl⟩
  | true =>
    cases hs : seenD D c with
    | true =>
      clear s1
      go_enter Try.func5, Try.ntmps5
      go_wp2
      go_ret
      exact ⟨by simp [wantB, hs], rfl⟩
    | false =>
      have HS := hide hs
      clear hs
      by_cases h1 : hi ≤ c
      · have d1 : decide ((hi : Int) ≤ (c : Int)) = true := by simp; omega
        have e1 : wantB (!true) (seenD D) hi c = true := by simp [wantB, unhide HS, h1]
        have E1 := hide e1
        clear s1 e1 hc hh
        rw [unhide HS] at look
        go_enter Try.func5, Try.ntmps5
        go_wp2
        go_ret
        exact ⟨by rw [unhide E1]; rfl, rfl⟩
      · have d1 : decide ((hi : Int) ≤ (c : Int)) = false := by simp; omega
        have s2 : IntKind.u64.wrap ((hi : Int) - (c : Int)) = ((hi : Int) - (c : Int)) := by rw [IntKind.wrap_u64]; omega
        have e1 : wantB (!true) (seenD D) hi c = decide ((hi : Int) - (c : Int) ≤ 1048576) := by
          have a1 : decide (hi ≤ c) = false := by simp; omega
          have a2 : decide (hi ≤ c + 1048576) = decide ((hi : Int) - (c : Int) ≤ 1048576) := by rw [decide_eq_decide]; omega
          simp only [wantB, unhide HS, a1, a2]; simp
        have E1 := hide e1
        clear s1 e1 hc hh
        rw [unhide HS] at look
        go_enter Try.func5, Try.ntmps5
        go_wp2
        go_ret
        exact ⟨by rw [unhide E1]; rfl, rfl⟩

theorem zz4 (a : Option Addr) (n c : Nat) (w : World) (hn : n ≤ 9223372036854775807) :
    Calls Try.prog 4 #[.slice a n c] w fun e w' => e = .returned (.bool (decide (n ≤ 1048576))) ∧ w = w' := by
  by_cases h : n ≤ 1048576
  · go_enter Try.func4, Try.ntmps4
    go_wp2
    go_ret
    exact ⟨by simp [h], rfl⟩
  · go_enter Try.func4, Try.ntmps4
    go_wp2
    go_ret
    exact ⟨by simp [h], rfl⟩

theorem long (a : Option Addr) (n c : Nat) (w : World) (hn : 4096 < n) (hm : n ≤ 9223372036854775807) :
    Calls Try.prog 3 #[.slice a n c] w fun e w' => e = .returned (.bool true) ∧ w = w' := by
  by_cases h : n ≤ 1048576
  · have hd : (decide (n ≤ 1048576)) = true := by simp; omega
    have hd2 : decide ((4096 : Int) < (n : Int)) = true := by simp; omega
    go_enter Try.func3, Try.ntmps3
    go_wp2_with (go_at_call 4; refine (zz4 _ _ _ _ (by omega)).mono ?_; rintro e w' ⟨rfl, rfl⟩)
    go_ret
    exact ⟨rfl, rfl⟩
  · have hd : (decide (n ≤ 1048576)) = false := by simp; omega
    go_enter Try.func3, Try.ntmps3
    go_wp2_with (go_at_call 4; refine (zz4 _ _ _ _ (by omega)).mono ?_; rintro e w' ⟨rfl, rfl⟩)
    go_ret
    exact ⟨rfl, rfl⟩

/-- THE STATE AFTER i COUNTERS. -/
structure St (w wr : World) (bm i : Nat) (fresh : Bool) (top : Nat) (D : DataW Unit) : Prop where
  win : ∃ r len cap R, Win wr (fun k => k < w.heap.size ∨ k = bm) w.heap.size top r len cap R ∧ Inv (seenD D) top R ∧ Shape fresh (seenD D) top len cap
  map : wr.ownsMap Try.prog 24 (plainElem Try.prog 4) bm i D
  topLt : top < 18446744073709551616
  below : Below w.heap.size w wr
  hbm : bm = w.heap.size + 1
  size : bm < wr.heap.size

theorem ownsMap_keeps {w w' : World} {K : Nat → Prop} {b n : Nat} {k : TypeId} {R : Value → Option (DataW Unit × List MemPlace)} {D : DataW Unit} (h : w.ownsMap Try.prog k R b n D) (hb : Keeps K w w') (hK : K b) : w'.ownsMap Try.prog k R b n D := by
  obtain ⟨es, cl, h1, h2⟩ := h
  exact ⟨es, cl, (hb.block b hK).trans h1, h2⟩

theorem win_grown {w w' : World} {K : Nat → Prop} {wb top len cap bm : Nat} {r : Option Addr} {R : Nat → Nat} (h : Win w K wb top r len cap R) (hg : w.grownBy w' (some bm)) (hb : K bm) : Win w' K wb top r len cap R := by
  have keep : ∀ k, k < w.heap.size → ¬ K k → w'.heap[k]? = w.heap[k]? := fun k hk hn => hg.block k hk (fun e => hn (by simp at e; rw [e]; exact hb))
  refine ⟨h.base, h.win.of_block (keep _ h.win.lt h.base), ⟨h.ring.le, h.ring.capLe, h.ring.nil, fun h0 => ?_, h.ring.rest, h.ring.small⟩⟩
  obtain ⟨rb, e, hrb, hne, hrow⟩ := h.ring.row h0
  exact ⟨rb, e, hrb, hne, hrow.of_block (keep _ hrow.lt hrb)⟩

/-- the start -/
theorem st_start (w : World) : St w ((w.alloc (.cells #[.int .u64 0, .slice none 0 0] 26)).alloc (.map #[] 0)) (w.heap.size + 1) 0 true 0 (.map []) := by
  have hrow : ((w.alloc (.cells #[.int .u64 0, .slice none 0 0] 26)).alloc (.map #[] 0)).rowIs w.heap.size 26 2 (winCells 0 none 0 0) := by
    refine World.rowIs.alloc ?_ _
    refine World.rowIs_alloc w #[.int .u64 0, .slice none 0 0] 26 _ (fun i hi => ?_)
    match i, hi with
    | 0, _ => rfl
    | 1, _ => rfl
  have hseen : ∀ x, seenD (.map []) x = false := fun _ => rfl
  refine ⟨⟨none, 0, 0, fun _ => 0, ⟨fun h => by rcases h with h | h <;> omega, hrow, ⟨Nat.le_refl _, by omega, fun _ => rfl, fun h => absurd h (by omega), fun _ _ => rfl, fun _ => by omega⟩⟩, ⟨fun b i _ _ _ => by rw [hseen]; exact Nat.zero_testBit i, fun x hx => by rw [hseen] at hx; cases hx⟩, .inl ⟨rfl, rfl, rfl, rfl, hseen⟩⟩, ?_, by omega, ((Below.refl _ _).alloc (Nat.le_refl _) _).alloc (by simp) _, rfl, by simp⟩
  have := World.ownsMap_made (H := Unit) (w.alloc (.cells #[.int .u64 0, .slice none 0 0] 26)) Try.prog 24 (plainElem Try.prog 4)
  simpa using this

/-- one counter more -/
theorem st_next {w wr w1 w2 : World} {k top top' x : Nat} {fresh : Bool} {D D' : DataW Unit} {r1 : Option Addr} {cap1 : Nat} {R1 : Nat → Nat} (st : St w wr (w.heap.size + 1) k fresh top D)
    (ke : Keeps (fun k => k < w.heap.size ∨ k = w.heap.size + 1) wr w1) (wi : Win w1 (fun k => k < w.heap.size ∨ k = w.heap.size + 1) w.heap.size top' r1 (nOf (top' / 64)) cap1 R1) (inv : Inv (addS (seenD D) x) top' R1) (tl : top' < 18446744073709551616)
    (own : w2.ownsMap Try.prog 24 (plainElem Try.prog 4) (w.heap.size + 1) (k + 1) D') (gr : w1.grownBy w2 (some (w.heap.size + 1))) (sp : seenD D' = addS (seenD D) x) : St w w2 (w.heap.size + 1) (k + 1) false top' D' := by
  have b1 : Below w.heap.size w w1 := st.below.trans (ke.below (fun k hk => .inl hk))
  exact ⟨⟨r1, _, cap1, R1, win_grown wi gr (.inr rfl), by rw [sp]; exact inv, .inr ⟨rfl, rfl⟩⟩, own, tl, b1.grown gr b1.size (fun j hj => by cases hj; omega), rfl, Nat.lt_of_lt_of_le st.size (Nat.le_trans ke.size gr.size)⟩

set_option maxHeartbeats 1000000 in
theorem law (a : Option Addr) (n c : Nat) (f : Nat → Nat) (w : World) (hn : n ≤ 4096) (hf : ∀ j, f j < 18446744073709551616)
    (hA : 0 < n → ∃ b off, a = some ⟨b, off, none⟩ ∧ b < w.heap.size ∧ ∀ j, j < n → w.cell? ⟨b, off + j, none⟩ = some (.int .u64 (f j : Int))) :
    Calls Try.prog 3 #[.slice a n c] w fun e w' => e = .returned (.bool true) ∧ Below w.heap.size w w' := by
  have hmm := make_hint n
  have hd : (decide (n ≤ 1048576)) = true := by simp; omega
  have hd2 : decide ((4096 : Int) < (n : Int)) = false := by simp; omega
  have HA := hide hA
  have HF := hide hf
  clear hA hf
  go_enter Try.func3, Try.ntmps3
  go_wp2_with (go_at_call 4; refine (zz4 _ _ _ _ (by omega)).mono ?_; rintro e w' ⟨rfl, rfl⟩)
  clear hmm
  go_loopw [5, 6, 7] (fun hv hi i wr => ∃ (k : Nat) (fresh : Bool) (top : Nat) (D : DataW Unit), k ≤ n ∧ i = .int .i64 k ∧ hv = .bool (!fresh) ∧ hi = .int .u64 (top : Int) ∧ St w wr (w.heap.size + 1) k fresh top D) (fun _ _ i _ => n - (intOf i).toNat)
  case atStart => exact ⟨0, true, 0, .map [], by omega, rfl, rfl, rfl, st_start w⟩
  case round =>
    obtain ⟨k, fresh, top, D, hk, rfl, rfl, rfl, st⟩ := hrel
    have ST := hide st
    clear st
    by_cases hlt : k < n
    · obtain ⟨b, off, rfl, hb, hc⟩ := unhide HA (by omega)
      have g0 := ((unhide ST).below.cell (p := ⟨b, off + k, none⟩) hb).trans (hc k hlt)
      have fl := unhide HF k
      clear hc
      generalize f k = x at *
      have FL := hide fl
      clear fl
      have hmod := model (w.heap.size + 1) k top x (!fresh) D wr (unhide ST).map (unhide FL) (unhide ST).topLt
      rw [Bool.not_not] at hmod
      have HM := hide hmod
      obtain ⟨r, len, cap, R, hwin, hinv, hsh⟩ := (unhide ST).win
      have HACC := hide (accept _ w.heap.size top len cap x fresh (seenD D) r R wr (unhide FL) (unhide ST).topLt hwin hinv hsh (fun j hj => by
        rcases hj with hj | hj
        · exact Nat.lt_of_lt_of_le hj (unhide ST).below.size
        · rw [hj]; exact (unhide ST).size))
      have WIN := hide hwin
      have INV := hide hinv
      have SH := hide hsh
      clear hmod hwin hinv hsh
      go_wp2_with fail
      refine (unhide HM).mono ?_
      rintro e w' ⟨rfl, rfl⟩
      clear HM
      go_wp2_with fail
      refine (unhide HACC).mono ?_
      rintro e w1 ⟨rfl, hb1, hyes, hno⟩
      clear HACC
      cases hw : wantB fresh (seenD D) top x with
      | false =>
        have e1 := hno hw
        subst e1
        clear hyes hno hb1
        go_wp2
        go_roundw
        case rel => exact ⟨k + 1, fresh, top, D, by omega, by go_num, rfl, rfl, ⟨⟨_, _, _, _, unhide WIN, unhide INV, unhide SH⟩, (unhide ST).map.mono (by omega), (unhide ST).topLt, (unhide ST).below, rfl, (unhide ST).size⟩⟩
        case measure => simp [intOf]; omega
      | true =>
        obtain ⟨r1, cap1, R1, hwin1, hinv1⟩ := hyes hw
        have OM := hide (ownsMap_keeps (unhide ST).map hb1 (.inr rfl))
        have KE := hide hb1
        have hw24 : (Lit.int .u64 (x : Int)).wf = true := by have := unhide FL; simp [Lit.wf, IntKind.bits, IntKind.min, IntKind.max, IntKind.signed]; omega
        have HKEY := hide (keyOf_int_mk (P := Try.prog) (k := 24) Try.underlying24 hw24)
        have SP := hide (seen_put ((unhide ST).map.tidy law24).isMap x)
        clear hyes hno hb1 hw24
        cases fresh with
        | true =>
          have WI : Hid (Win w1 (fun k => k < w.heap.size ∨ k = w.heap.size + 1) w.heap.size x r1 (nOf (x / 64)) cap1 R1) := hwin1
          have IN : Hid (Inv (addS (seenD D) x) x R1) := hinv1
          have TL := FL
          clear hwin1 hinv1
          go_wp2_with (at_mapUpdate; refine wpList_mapUpdate_own _ rfl _ _ _ 27 rfl 24 4 law24 Try.underlying27 _ (w.heap.size + 1) k D rfl (unhide OM) (by unfold maxLen; omega) _ _ _ rfl rfl (unhide HKEY) _ [] (plainElem_bool Try.underlying4 true) ?_; intro w2 hown2 hgrow2; have O2 := hide hown2; have G2 := hide hgrow2; clear hown2 hgrow2)
          go_roundw
          case rel => exact ⟨k + 1, false, x, _, by omega, by go_num, rfl, rfl, st_next (unhide ST) (unhide KE) (unhide WI) (unhide IN) (unhide TL) (unhide O2) (unhide G2) (unhide SP)⟩
          case measure => simp [intOf]; omega
        | false =>
          by_cases htx : top < x
          · have et : topOf false top x = x := by unfold topOf; rw [if_pos (.inr htx)]
            rw [et] at hwin1 hinv1
            have WI := hide hwin1
            have IN := hide hinv1
            have TL := FL
            have d1 : decide ((top : Int) < (x : Int)) = true := by simp; omega
            clear hwin1 hinv1 et
            go_wp2_with (at_mapUpdate; refine wpList_mapUpdate_own _ rfl _ _ _ 27 rfl 24 4 law24 Try.underlying27 _ (w.heap.size + 1) k D rfl (unhide OM) (by unfold maxLen; omega) _ _ _ rfl rfl (unhide HKEY) _ [] (plainElem_bool Try.underlying4 true) ?_; intro w2 hown2 hgrow2; have O2 := hide hown2; have G2 := hide hgrow2; clear hown2 hgrow2)
            go_roundw
            case rel => exact ⟨k + 1, false, x, _, by omega, by go_num, rfl, rfl, st_next (unhide ST) (unhide KE) (unhide WI) (unhide IN) (unhide TL) (unhide O2) (unhide G2) (unhide SP)⟩
            case measure => simp [intOf]; omega
          · have et : topOf false top x = top := by unfold topOf; rw [if_neg (by simp; omega)]
            rw [et] at hwin1 hinv1
            have WI := hide hwin1
            have IN := hide hinv1
            have TL := hide (unhide ST).topLt
            have d1 : decide ((top : Int) < (x : Int)) = false := by simp; omega
            clear hwin1 hinv1 et
            go_wp2_with (at_mapUpdate; refine wpList_mapUpdate_own _ rfl _ _ _ 27 rfl 24 4 law24 Try.underlying27 _ (w.heap.size + 1) k D rfl (unhide OM) (by unfold maxLen; omega) _ _ _ rfl rfl (unhide HKEY) _ [] (plainElem_bool Try.underlying4 true) ?_; intro w2 hown2 hgrow2; have O2 := hide hown2; have G2 := hide hgrow2; clear hown2 hgrow2)
            go_roundw
            case rel => exact ⟨k + 1, false, top, _, by omega, by go_num, rfl, rfl, st_next (unhide ST) (unhide KE) (unhide WI) (unhide IN) (unhide TL) (unhide O2) (unhide G2) (unhide SP)⟩
            case measure => simp [intOf]; omega
    · go_wp2
      go_ret
      exact ⟨rfl, (unhide ST).below⟩
end Go.Proofs.Qxb6623259a

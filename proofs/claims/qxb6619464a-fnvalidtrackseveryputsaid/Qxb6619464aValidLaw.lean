import Derived.Test.Qxb6619464aValid
namespace Go.Proofs.Qxb6619464a
open Go.ChangeShapes Go.WideShapes Go.RowKit Go.Maps

theorem zero2 (w : World) : (zeroValue 2).run Try.prog w = .ok (.int .i64 0) w := by kernel_rfl

theorem PutsAt.later {w w' : World} {B : Nat} {a : Option Addr} {n : Nat} {K : Nat → ByteArray} {V : Nat → Int} (h : PutsAt w a n K V) (hb : Below B w w') (hB : w.heap.size ≤ B) : PutsAt w' a n K V := by
  intro hn
  obtain ⟨b, off, e, hlt, hc⟩ := h hn
  exact ⟨b, off, e, Nat.lt_of_lt_of_le hlt hb.size, fun j hj => ⟨(hb.cell (by exact Nat.lt_of_lt_of_le hlt hB)).trans (hc j hj).1, (hb.cell (by exact Nat.lt_of_lt_of_le hlt hB)).trans (hc j hj).2⟩⟩

theorem ownsMap_below {w w' : World} {B b n : Nat} {k : TypeId} {R : Value → Option (DataW Unit × List MemPlace)} {D : DataW Unit} (h : w.ownsMap Try.prog k R b n D) (hb : Below B w w') (hlt : b < B) : w'.ownsMap Try.prog k R b n D := by
  obtain ⟨es, cl, h1, h2⟩ := h
  exact ⟨es, cl, (hb.block b hlt).trans h1, h2⟩

theorem ownsMap_lt {w : World} {b n : Nat} {k : TypeId} {R : Value → Option (DataW Unit × List MemPlace)} {D : DataW Unit} (h : w.ownsMap Try.prog k R b n D) : b < w.heap.size := by
  obtain ⟨es, cl, h1, _⟩ := h
  exact (Array.getElem?_eq_some_iff.1 h1).1

theorem dz_of (g : Nat) (x : Int) (h : (g : Int) = x) : decide (g = 0) = (x == 0) := by subst h; rw [Bool.eq_iff_iff]; simp
theorem has_cases (b : Bool) (c : Int) : b = false ∨ (b = true ∧ c < 0) ∨ (b = true ∧ ¬ c < 0) := by cases b <;> simp <;> omega
theorem empty_isEmpty : (ByteArray.mk #[]).toList.isEmpty = true := by decide +kernel

set_option linter.unusedSimpArgs false in
set_option maxHeartbeats 4000000 in
theorem valid_law_false (s : ByteArray) (a : Option Addr) (n c : Nat) (K : Nat → ByteArray) (V : Nat → Int) (w : World) (hs : s.size ≤ 9223372036854775807) (hn : n ≤ 9223372036854775807) (hk : ∀ j, (K j).size ≤ 9223372036854775807)
    (hV : ∀ j, (Lit.int .i64 (V j)).wf = true) (hA : PutsAt w a n K V) (hN : s.toList.isEmpty = false) :
    Calls Try.prog 5 #[.string s, .slice a n c] w fun e w' => e = .returned (.bool true) ∧ Below w.heap.size w w' := by
  have H13 := hide (zz13 s a n c K V w hs hn hk hA)
  have HA := hide hA
  have HV := hide hV
  clear hA hV hk
  have hmm := @run_makeMap Try.prog
  go_enter Try.func5, Try.ntmps5
  go_wp2_with fail
  refine (unhide H13).mono ?_
  rintro e w' ⟨bo, rfl, rfl, hP⟩
  clear H13
  cases bo with
  | false =>
    go_wp2
    go_ret
    exact ⟨rfl, Below.refl _ _⟩
  | true =>
    obtain ⟨p1, p2, p3⟩ := hP rfl
    have HP := hide p3
    clear p3 hP
    by_cases c1 : 65536 < s.size
    · have d1 : decide ((65536 : Int) < (s.size : Int)) = true := by simp; omega
      go_wp2
      go_ret
      exact ⟨rfl, Below.refl _ _⟩
    have d1 : decide ((65536 : Int) < (s.size : Int)) = false := by simp; omega
    by_cases c2 : 4096 < n
    · have d2 : decide ((4096 : Int) < (n : Int)) = true := by simp; omega
      go_wp2
      go_ret
      exact ⟨rfl, Below.refl _ _⟩
    have d2 : decide ((4096 : Int) < (n : Int)) = false := by simp; omega
    go_wp2_with fail
    go_loop [5, 6] (fun z i => ∃ k t : Nat, k ≤ n ∧ i = .int .i64 k ∧ z = .int .i64 t ∧ t ≤ 1048576) (fun _ i => n - (intOf i).toNat)
    case atStart => exact ⟨0, s.size, by omega, rfl, rfl, by omega⟩
    case round =>
      obtain ⟨k, t, hkn, rfl, rfl, ht⟩ := hrel
      by_cases hlt : k < n
      · obtain ⟨b, off, rfl, hb, hc⟩ := unhide HA (by omega)
        have g0 := (hc k hlt).1
        have gk := unhide HP k hlt
        clear hc
        generalize K k = x at *
        by_cases h4 : t + (24 + x.size) ≤ 1048576
        · go_wp2
          go_round
          case rel => exact ⟨k + 1, t + (24 + x.size), by omega, by go_num, by go_num, h4⟩
          case measure => simp [intOf]; omega
        · go_wp2
          go_ret
          exact ⟨rfl, Below.refl _ _⟩
      · go_wp2_with fail
        refine (zz14 _).mono ?_
        rintro e w' ⟨rfl, rfl⟩
        go_wp2_with fail
        refine (zz15_nil s _).mono ?_
        rintro e w1 ⟨rfl, hb1⟩
        have HB1 := hide hb1
        have hz1 := hb1.size
        clear hb1
        go_wp2_with fail
        have hown0 := World.ownsMap_made (H := Unit) w1 Try.prog 9 (plainElem Try.prog 2)
        refine (zz15_some w1.heap.size 0 s (.map []) _ hown0).mono ?_
        rintro e w2 ⟨rfl, hb2⟩
        have nz : negD (.map []) = 0 := rfl
        go_wp2_with fail
        have O2 : Hid (w2.ownsMap Try.prog 9 (plainElem Try.prog 2) w1.heap.size 0 (.map [] : DataW Unit)) := ownsMap_below hown0 hb2 (by simp)
        have B2 : Hid (Below w.heap.size w w2) := ((unhide HB1).alloc hz1 _).trans (hb2.mono (by simp; omega))
        clear hown0 hb2 HB1 nz hmm
        generalize w1.heap.size = B at *
        go_loopw [9, 10] (fun neg i wr => ∃ (k : Nat) (D : DataW Unit), k ≤ n ∧ i = .int .i64 k ∧ neg = .int .i64 (negD D) ∧ negD D ≤ k ∧ wr.ownsMap Try.prog 9 (plainElem Try.prog 2) B k D ∧ Below w.heap.size w wr) (fun _ i _ => n - (intOf i).toNat)
        case atStart => exact ⟨0, .map [], by omega, rfl, rfl, Nat.le_refl _, unhide O2, unhide B2⟩
        case round =>
          clear O2 B2
          obtain ⟨i, D, hin, rfl, rfl, hneg, hown, hbel⟩ := hrel
          have O := hide hown
          have BE := hide hbel
          clear hown hbel
          by_cases hlt2 : i < n
          · obtain ⟨b, off, rfl, hb, hc⟩ := unhide HA (by omega)
            have g0 := ((unhide BE).cell (p := ⟨b, off + i * 2, none⟩) hb).trans (hc i hlt2).1
            have g1 := ((unhide BE).cell (p := ⟨b, off + i * 2 + 1, none⟩) hb).trans (hc i hlt2).2
            have gk := unhide HP i hlt2
            have gv := unhide HV i
            clear hc
            generalize K i = x at *
            generalize V i = v at *
            have hkey := Go.WideMaps.keyOf_string_mk (P := Try.prog) (k := 9) Try.underlying9 (s := x) (by unfold maxLen; omega)
            have HKEY := hide hkey
            have GV := hide gv
            clear hkey gv
            have TD := hide ((unhide O).tidy law9)
            generalize hg : negD D = g at *
            have G := hide hg
            clear hg
            go_wp2_with (first
              | (at_lookup; refine wpList_lookup_own_ok_int _ rfl _ _ 50 rfl 9 2 .i64 law9 Try.underlying50 Try.underlying2 (zero2 _) B i D rfl (unhide O) _ _ rfl (unhide HKEY) ?_; intro cv hat hwc; have HAT := hide hat; clear hat hwc; have hcs : (Maps.has D (.string x.data.toList) = false) ∨ (Maps.has D (.string x.data.toList) = true ∧ cv < 0) ∨ (Maps.has D (.string x.data.toList) = true ∧ ¬ cv < 0) := has_cases _ _; rcases hcs with hh | ⟨hh, hc0⟩ | ⟨hh, hc0⟩ <;> by_cases hv0 : v < 0)
              | (at_mapUpdate; refine wpList_mapUpdate_own _ rfl _ _ _ 50 rfl 9 2 law9 Try.underlying50 _ B i D rfl (unhide O) (by unfold maxLen; omega) _ _ _ rfl rfl (unhide HKEY) _ [] (plainElem_int Try.underlying2 (unhide GV)) ?_; intro w3 hown3 hgrow3; have O3 := hide hown3; have G3 := hide hgrow3; clear hown3 hgrow3))
            all_goals
              have law := negD_put (unhide TD) (.string x.data.toList) (.lit (.int .i64 v)) (.lit (.int .i64 0))
              rw [unhide HAT, hh, unhide G] at law
              simp only [isNeg, Bool.true_and, Bool.false_and, Bool.false_eq_true, if_false, Nat.add_zero, decide_eq_true_eq] at law
              generalize hD' : D.put (.string x.data.toList) (.lit (.int .i64 v)) = D' at *
              clear hD'
              have z1 := zz15_some B (i + 1) s D' w3 (unhide O3)
              generalize hg' : negD D' = g' at *
              have G' := hide hg'
              have Z1 := hide z1
              clear hg' z1
              have LAW := hide law
              clear law
              have dz3 : ((g' : Int) = (g : Int) + 1) ∨ ((g' : Int) = (g : Int)) ∨ ((g' : Int) = (g : Int) - 1) := by have h := unhide LAW; (repeat' split at h) <;> omega
              rcases dz3 with hx | hx | hx <;> first | (exfalso; have h := unhide LAW; (repeat' split at h) <;> omega) | skip
              have dz := dz_of _ _ hx
              have HX := hide hx
              clear hx
              refine (unhide Z1).mono ?_
              rintro e w4 ⟨rfl, hb4⟩
              clear Z1
              have O4 : Hid (w4.ownsMap Try.prog 9 (plainElem Try.prog 2) B (i + 1) D') := ownsMap_below (unhide O3) hb4 (ownsMap_lt (unhide O3))
              have B4 : Hid (Below w.heap.size w w4) := ((unhide BE).grown (unhide G3) (unhide BE).size (fun k h => by cases h; omega)).trans (hb4.mono (Nat.le_trans (unhide BE).size (unhide G3).size))
              clear O3 G3 hb4
              have z2 := zz15_some B (i + 1) (ByteArray.mk #[]) D' w4 (unhide O4)
              rw [empty_isEmpty, Bool.not_true, Bool.and_false] at z2
              have Z2 := hide z2
              clear z2
              go_wp2_with fail
              refine (unhide Z2).mono ?_
              rintro e w5 ⟨rfl, hb5⟩
              clear Z2
              have O5 : Hid (w5.ownsMap Try.prog 9 (plainElem Try.prog 2) B (i + 1) D') := ownsMap_below (unhide O4) hb5 (ownsMap_lt (unhide O4))
              have B5 : Hid (Below w.heap.size w w5) := (unhide B4).trans (hb5.mono (unhide B4).size)
              clear O4 B4 hb5
              go_wp2
              go_roundw
              case rel => exact ⟨i + 1, D', by omega, by go_num, by rw [unhide G', unhide HX], by rw [unhide G']; have h := unhide LAW; (repeat' split at h) <;> omega, unhide O5, unhide B5⟩
              case measure => simp [intOf]; omega
          · go_wp2
            go_ret
            exact ⟨rfl, unhide BE⟩

set_option linter.unusedSimpArgs false in
set_option maxHeartbeats 4000000 in
theorem valid_law_true (s : ByteArray) (a : Option Addr) (n c : Nat) (K : Nat → ByteArray) (V : Nat → Int) (w : World) (hs : s.size ≤ 9223372036854775807) (hn : n ≤ 9223372036854775807) (hk : ∀ j, (K j).size ≤ 9223372036854775807)
    (hV : ∀ j, (Lit.int .i64 (V j)).wf = true) (hA : PutsAt w a n K V) (hN : s.toList.isEmpty = true) :
    Calls Try.prog 5 #[.string s, .slice a n c] w fun e w' => e = .returned (.bool true) ∧ Below w.heap.size w w' := by
  have H13 := hide (zz13 s a n c K V w hs hn hk hA)
  have HA := hide hA
  have HV := hide hV
  clear hA hV hk
  have hmm := @run_makeMap Try.prog
  go_enter Try.func5, Try.ntmps5
  go_wp2_with fail
  refine (unhide H13).mono ?_
  rintro e w' ⟨bo, rfl, rfl, hP⟩
  clear H13
  cases bo with
  | false =>
    go_wp2
    go_ret
    exact ⟨rfl, Below.refl _ _⟩
  | true =>
    obtain ⟨p1, p2, p3⟩ := hP rfl
    have HP := hide p3
    clear p3 hP
    by_cases c1 : 65536 < s.size
    · have d1 : decide ((65536 : Int) < (s.size : Int)) = true := by simp; omega
      go_wp2
      go_ret
      exact ⟨rfl, Below.refl _ _⟩
    have d1 : decide ((65536 : Int) < (s.size : Int)) = false := by simp; omega
    by_cases c2 : 4096 < n
    · have d2 : decide ((4096 : Int) < (n : Int)) = true := by simp; omega
      go_wp2
      go_ret
      exact ⟨rfl, Below.refl _ _⟩
    have d2 : decide ((4096 : Int) < (n : Int)) = false := by simp; omega
    go_wp2_with fail
    go_loop [5, 6] (fun z i => ∃ k t : Nat, k ≤ n ∧ i = .int .i64 k ∧ z = .int .i64 t ∧ t ≤ 1048576) (fun _ i => n - (intOf i).toNat)
    case atStart => exact ⟨0, s.size, by omega, rfl, rfl, by omega⟩
    case round =>
      obtain ⟨k, t, hkn, rfl, rfl, ht⟩ := hrel
      by_cases hlt : k < n
      · obtain ⟨b, off, rfl, hb, hc⟩ := unhide HA (by omega)
        have g0 := (hc k hlt).1
        have gk := unhide HP k hlt
        clear hc
        generalize K k = x at *
        by_cases h4 : t + (24 + x.size) ≤ 1048576
        · go_wp2
          go_round
          case rel => exact ⟨k + 1, t + (24 + x.size), by omega, by go_num, by go_num, h4⟩
          case measure => simp [intOf]; omega
        · go_wp2
          go_ret
          exact ⟨rfl, Below.refl _ _⟩
      · go_wp2_with fail
        refine (zz14 _).mono ?_
        rintro e w' ⟨rfl, rfl⟩
        go_wp2_with fail
        refine (zz15_nil s _).mono ?_
        rintro e w1 ⟨rfl, hb1⟩
        have HB1 := hide hb1
        have hz1 := hb1.size
        clear hb1
        go_wp2_with fail
        have hown0 := World.ownsMap_made (H := Unit) w1 Try.prog 9 (plainElem Try.prog 2)
        refine (zz15_some w1.heap.size 0 s (.map []) _ hown0).mono ?_
        rintro e w2 ⟨rfl, hb2⟩
        have nz : negD (.map []) = 0 := rfl
        go_wp2_with fail
        have O2 : Hid (w2.ownsMap Try.prog 9 (plainElem Try.prog 2) w1.heap.size 0 (.map [] : DataW Unit)) := ownsMap_below hown0 hb2 (by simp)
        have B2 : Hid (Below w.heap.size w w2) := ((unhide HB1).alloc hz1 _).trans (hb2.mono (by simp; omega))
        clear hown0 hb2 HB1 nz hmm
        generalize w1.heap.size = B at *
        go_loopw [9, 10] (fun neg i wr => ∃ (k : Nat) (D : DataW Unit), k ≤ n ∧ i = .int .i64 k ∧ neg = .int .i64 (negD D) ∧ negD D ≤ k ∧ wr.ownsMap Try.prog 9 (plainElem Try.prog 2) B k D ∧ Below w.heap.size w wr) (fun _ i _ => n - (intOf i).toNat)
        case atStart => exact ⟨0, .map [], by omega, rfl, rfl, Nat.le_refl _, unhide O2, unhide B2⟩
        case round =>
          clear O2 B2
          obtain ⟨i, D, hin, rfl, rfl, hneg, hown, hbel⟩ := hrel
          have O := hide hown
          have BE := hide hbel
          clear hown hbel
          by_cases hlt2 : i < n
          · obtain ⟨b, off, rfl, hb, hc⟩ := unhide HA (by omega)
            have g0 := ((unhide BE).cell (p := ⟨b, off + i * 2, none⟩) hb).trans (hc i hlt2).1
            have g1 := ((unhide BE).cell (p := ⟨b, off + i * 2 + 1, none⟩) hb).trans (hc i hlt2).2
            have gk := unhide HP i hlt2
            have gv := unhide HV i
            clear hc
            generalize K i = x at *
            generalize V i = v at *
            have hkey := Go.WideMaps.keyOf_string_mk (P := Try.prog) (k := 9) Try.underlying9 (s := x) (by unfold maxLen; omega)
            have HKEY := hide hkey
            have GV := hide gv
            clear hkey gv
            have TD := hide ((unhide O).tidy law9)
            generalize hg : negD D = g at *
            have G := hide hg
            clear hg
            go_wp2_with (first
              | (at_lookup; refine wpList_lookup_own_ok_int _ rfl _ _ 50 rfl 9 2 .i64 law9 Try.underlying50 Try.underlying2 (zero2 _) B i D rfl (unhide O) _ _ rfl (unhide HKEY) ?_; intro cv hat hwc; have HAT := hide hat; clear hat hwc; have hcs : (Maps.has D (.string x.data.toList) = false) ∨ (Maps.has D (.string x.data.toList) = true ∧ cv < 0) ∨ (Maps.has D (.string x.data.toList) = true ∧ ¬ cv < 0) := has_cases _ _; rcases hcs with hh | ⟨hh, hc0⟩ | ⟨hh, hc0⟩ <;> by_cases hv0 : v < 0)
              | (at_mapUpdate; refine wpList_mapUpdate_own _ rfl _ _ _ 50 rfl 9 2 law9 Try.underlying50 _ B i D rfl (unhide O) (by unfold maxLen; omega) _ _ _ rfl rfl (unhide HKEY) _ [] (plainElem_int Try.underlying2 (unhide GV)) ?_; intro w3 hown3 hgrow3; have O3 := hide hown3; have G3 := hide hgrow3; clear hown3 hgrow3))
            all_goals
              have law := negD_put (unhide TD) (.string x.data.toList) (.lit (.int .i64 v)) (.lit (.int .i64 0))
              rw [unhide HAT, hh, unhide G] at law
              simp only [isNeg, Bool.true_and, Bool.false_and, Bool.false_eq_true, if_false, Nat.add_zero, decide_eq_true_eq] at law
              generalize hD' : D.put (.string x.data.toList) (.lit (.int .i64 v)) = D' at *
              clear hD'
              have z1 := zz15_some B (i + 1) s D' w3 (unhide O3)
              generalize hg' : negD D' = g' at *
              have G' := hide hg'
              have Z1 := hide z1
              clear hg' z1
              have LAW := hide law
              clear law
              have dz3 : ((g' : Int) = (g : Int) + 1) ∨ ((g' : Int) = (g : Int)) ∨ ((g' : Int) = (g : Int) - 1) := by have h := unhide LAW; (repeat' split at h) <;> omega
              rcases dz3 with hx | hx | hx <;> first | (exfalso; have h := unhide LAW; (repeat' split at h) <;> omega) | skip
              have dz := dz_of _ _ hx
              have HX := hide hx
              clear hx
              refine (unhide Z1).mono ?_
              rintro e w4 ⟨rfl, hb4⟩
              clear Z1
              have O4 : Hid (w4.ownsMap Try.prog 9 (plainElem Try.prog 2) B (i + 1) D') := ownsMap_below (unhide O3) hb4 (ownsMap_lt (unhide O3))
              have B4 : Hid (Below w.heap.size w w4) := ((unhide BE).grown (unhide G3) (unhide BE).size (fun k h => by cases h; omega)).trans (hb4.mono (Nat.le_trans (unhide BE).size (unhide G3).size))
              clear O3 G3 hb4
              have z2 := zz15_some B (i + 1) (ByteArray.mk #[]) D' w4 (unhide O4)
              rw [empty_isEmpty, Bool.not_true, Bool.and_false] at z2
              have Z2 := hide z2
              clear z2
              go_wp2_with fail
              refine (unhide Z2).mono ?_
              rintro e w5 ⟨rfl, hb5⟩
              clear Z2
              have O5 : Hid (w5.ownsMap Try.prog 9 (plainElem Try.prog 2) B (i + 1) D') := ownsMap_below (unhide O4) hb5 (ownsMap_lt (unhide O4))
              have B5 : Hid (Below w.heap.size w w5) := (unhide B4).trans (hb5.mono (unhide B4).size)
              clear O4 B4 hb5
              go_wp2
              go_roundw
              case rel => exact ⟨i + 1, D', by omega, by go_num, by rw [unhide G', unhide HX], by rw [unhide G']; have h := unhide LAW; (repeat' split at h) <;> omega, unhide O5, unhide B5⟩
              case measure => simp [intOf]; omega
          · go_wp2
            go_ret
            exact ⟨rfl, unhide BE⟩

theorem valid_law (s : ByteArray) (a : Option Addr) (n c : Nat) (K : Nat → ByteArray) (V : Nat → Int) (w : World) (hs : s.size ≤ 9223372036854775807) (hn : n ≤ 9223372036854775807) (hk : ∀ j, (K j).size ≤ 9223372036854775807)
    (hV : ∀ j, (Lit.int .i64 (V j)).wf = true) (hA : PutsAt w a n K V) :
    Calls Try.prog 5 #[.string s, .slice a n c] w fun e w' => e = .returned (.bool true) ∧ Below w.heap.size w w' := by
  cases hN : s.toList.isEmpty
  · exact valid_law_false s a n c K V w hs hn hk hV hA hN
  · exact valid_law_true s a n c K V w hs hn hk hV hA hN
end Go.Proofs.Qxb6619464a

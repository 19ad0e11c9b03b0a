import Derived.Test.Qxb6623333aData
namespace Go.Proofs.Qxb6623333a
open Go.ChangeShapes Go.WideShapes Go.RowKit Go.Maps

/-- WHAT A COUNTER OF SIZES ANSWERS: at most 1<<21; where it is at most 1<<20, so was the total before, and P holds. -/
def SizeOk (P : Prop) (t0 : Nat) (w : World) (e : Ending) (w' : World) : Prop := ∃ t : Nat, e = .returned (.int .i64 (t : Int)) ∧ w = w' ∧ t ≤ 2097152 ∧ (t ≤ 1048576 → t0 ≤ 1048576 ∧ P)
theorem SizeOk.no {P : Prop} {t0 : Nat} {w : World} : SizeOk P t0 w (.returned (.int .i64 1048577)) w := ⟨1048577, rfl, rfl, by omega, fun h => absurd h (by omega)⟩

theorem addString (t0 : Nat) (s : ByteArray) (w : World) (ht : t0 ≤ 2097152) (hs : s.size ≤ 9223372036854775807) :
    Calls Try.prog 17 #[.int .i64 (t0 : Int), .string s] w (SizeOk (s.size ≤ 1048576) t0 w) := by
  by_cases h1 : t0 ≤ 1048576
  · have d1 : decide ((1048576 : Int) < (t0 : Int)) = false := by simp; omega
    by_cases h2 : s.size ≤ 1048576
    · have d2 : decide ((1048576 : Int) < (s.size : Int)) = false := by simp; omega
      go_enter Try.func17, Try.ntmps17
      go_wp2
      go_ret
      exact ⟨t0 + s.size, by simp, rfl, by omega, fun _ => ⟨h1, h2⟩⟩
    · have d2 : decide ((1048576 : Int) < (s.size : Int)) = true := by simp; omega
      go_enter Try.func17, Try.ntmps17
      go_wp2
      go_ret
      exact SizeOk.no
  · have d1 : decide ((1048576 : Int) < (t0 : Int)) = true := by simp; omega
    go_enter Try.func17, Try.ntmps17
    go_wp2
    go_ret
    exact SizeOk.no

def SmallN (n : Nat) : Prop := n ≤ 65536

set_option maxHeartbeats 400000 in
theorem addStrings (t0 : Nat) (r : Option Addr) (n c : Nat) (f : Nat → ByteArray) (w : World) (ht : t0 ≤ 2097152) (hn : n ≤ 9223372036854775807) (hf : ∀ j, (f j).size ≤ 9223372036854775807) (hA : StrsAt w w.heap.size r n f) :
    Calls Try.prog 18 #[.int .i64 (t0 : Int), .slice r n c] w (SizeOk (SmallN n) t0 w) := by
  by_cases h1 : t0 ≤ 1048576
  · have d1 : decide ((1048576 : Int) < (t0 : Int)) = false := by simp; omega
    by_cases h2 : n ≤ 65536
    · have d2 : decide ((65536 : Int) < (n : Int)) = false := by simp; omega
      have HA := hide hA
      have HF := hide hf
      clear hA hf
      go_enter Try.func18, Try.ntmps18
      go_wp2
      go_loop [0, 5] (fun z i => ∃ k t : Nat, k ≤ n ∧ i = .int .i64 k ∧ z = .int .i64 t ∧ t ≤ 2097152) (fun _ i => n - (intOf i).toNat)
      case atStart => exact ⟨0, t0 + 16 * n, by omega, rfl, by simp, by omega⟩
      case round =>
        obtain ⟨k, t, hk, rfl, rfl, ht2⟩ := hrel
        by_cases hlt : k < n
        · have d3 : decide ((k : Int) < (n : Int)) = true := by simp; omega
          by_cases h4 : t ≤ 1048576
          · have d4 : decide ((t : Int) ≤ 1048576) = true := by simp; omega
            obtain ⟨b, off, rfl, hb, hc⟩ := unhide HA (by omega)
            have g0 := hc k hlt
            have HS := hide (addString t (f k) w ht2 (unhide HF k))
            clear hc
            go_wp2_with fail
            refine (unhide HS).mono ?_
            rintro e w' ⟨t', rfl, rfl, h5, _⟩
            clear HS
            go_wp2
            go_round
            case rel => exact ⟨k + 1, t', by omega, by go_num, rfl, h5⟩
            case measure => simp [intOf]; omega
          · have d4 : decide ((t : Int) ≤ 1048576) = false := by simp; omega
            go_wp2
            go_ret
            exact ⟨t, rfl, rfl, ht2, fun h => absurd h h4⟩
        · have d3 : decide ((k : Int) < (n : Int)) = false := by simp; omega
          go_wp2
          go_ret
          exact ⟨t, rfl, rfl, ht2, fun _ => ⟨h1, h2⟩⟩
    · have d2 : decide ((65536 : Int) < (n : Int)) = true := by simp; omega
      go_enter Try.func18, Try.ntmps18
      go_wp2
      go_ret
      exact SizeOk.no
  · have d1 : decide ((1048576 : Int) < (t0 : Int)) = true := by simp; omega
    go_enter Try.func18, Try.ntmps18
    go_wp2
    go_ret
    exact SizeOk.no

/-- what is then known of an element's keys -/
def KeysSmall (x : EV) : Prop := x.kl ≤ 65536 ∧ x.vl ≤ 65536
/-- .. of a slice of elements -/
def ElemsSmall (n : Nat) (E : Nat → EV) : Prop := n ≤ 65536 ∧ ∀ j, j < n → KeysSmall (E j)
/-- the lengths are lengths -/
def ElemsFit (n : Nat) (E : Nat → EV) : Prop := n ≤ 9223372036854775807 ∧ ∀ j, (E j).nm.size ≤ 9223372036854775807 ∧ (E j).kl ≤ 9223372036854775807 ∧ (E j).vl ≤ 9223372036854775807 ∧ (∀ i, ((E j).kf i).size ≤ 9223372036854775807) ∧ ∀ i, ((E j).vf i).size ≤ 9223372036854775807

set_option maxHeartbeats 1000000 in
theorem addElems (t0 : Nat) (r : Option Addr) (n c : Nat) (E : Nat → EV) (w : World) (ht : t0 ≤ 2097152) (hf : ElemsFit n E) (hA : ElemsAt w w.heap.size r n E) :
    Calls Try.prog 14 #[.int .i64 (t0 : Int), .slice r n c] w (SizeOk (ElemsSmall n E) t0 w) := by
  have hn := hf.1
  by_cases h1 : t0 ≤ 1048576
  · have d1 : decide ((1048576 : Int) < (t0 : Int)) = false := by simp; omega
    by_cases h2 : n ≤ 65536
    · have d2 : decide ((65536 : Int) < (n : Int)) = false := by simp; omega
      have HA := hide hA
      have HF := hide hf
      clear hA hf
      go_enter Try.func14, Try.ntmps14
      go_wp2
      go_loop [0, 5] (fun z i => ∃ k t : Nat, k ≤ n ∧ i = .int .i64 k ∧ z = .int .i64 t ∧ t ≤ 2097152 ∧ (t ≤ 1048576 → ∀ j, j < k → KeysSmall (E j))) (fun _ i => n - (intOf i).toNat)
      case atStart => exact ⟨0, t0 + 16 * n, by omega, rfl, by simp, by omega, fun _ j hj => absurd hj (by omega)⟩
      case round =>
        obtain ⟨k, t, hk, rfl, rfl, ht2, hall⟩ := hrel
        have HALL := hide hall
        clear hall
        by_cases hlt : k < n
        · have d3 : decide ((k : Int) < (n : Int)) = true := by simp; omega
          by_cases h4 : t ≤ 1048576
          · have d4 : decide ((t : Int) ≤ 1048576) = true := by simp; omega
            obtain ⟨b, off, rfl, hb, hc⟩ := (unhide HA).1 (by omega)
            obtain ⟨g0, g1, g2⟩ := hc k hlt
            have ev := (unhide HA).2 k hlt
            obtain ⟨q0, q1, q2, q3, q4⟩ := (unhide HF).2 k
            have HS := hide (addString t (E k).nm w ht2 q0)
            have HK := hide (fun t' (h : t' ≤ 2097152) => addStrings t' (E k).kr (E k).kl (E k).kc (E k).kf w h q1 q3 ev.k)
            have HV := hide (fun t' (h : t' ≤ 2097152) => addStrings t' (E k).vr (E k).vl (E k).vc (E k).vf w h q2 q4 ev.v)
            clear hc ev q0 q1 q2 q3 q4
            go_wp2_with fail
            refine (unhide HS).mono ?_
            rintro e w' ⟨t1, rfl, rfl, h5, h6⟩
            have H6 := hide h6
            clear HS h6
            go_wp2_with fail
            refine (unhide HK t1 h5).mono ?_
            rintro e w' ⟨t2, rfl, rfl, h7, h8⟩
            have H8 := hide h8
            clear HK h8
            go_wp2_with fail
            refine (unhide HV t2 h7).mono ?_
            rintro e w' ⟨t3, rfl, rfl, h9, h10⟩
            have H10 := hide h10
            clear HV h10
            go_wp2
            go_round
            case rel => exact ⟨k + 1, t3, by omega, by go_num, rfl, h9, fun h j hj => by
              obtain ⟨a1, a2⟩ := unhide H10 h
              obtain ⟨a3, a4⟩ := unhide H8 a1
              by_cases e : j = k
              · subst e; exact ⟨a4, a2⟩
              · exact unhide HALL h4 j (by omega)⟩
            case measure => simp [intOf]; omega
          · have d4 : decide ((t : Int) ≤ 1048576) = false := by simp; omega
            go_wp2
            go_ret
            exact ⟨t, rfl, rfl, ht2, fun h => absurd h h4⟩
        · obtain rfl : k = n := by omega
          have d3 : decide ((k : Int) < (k : Int)) = false := by simp
          go_wp2
          go_ret
          exact ⟨t, rfl, rfl, ht2, fun h => ⟨h1, h2, unhide HALL h⟩⟩
    · have d2 : decide ((65536 : Int) < (n : Int)) = true := by simp; omega
      go_enter Try.func14, Try.ntmps14
      go_wp2
      go_ret
      exact SizeOk.no
  · have d1 : decide ((1048576 : Int) < (t0 : Int)) = true := by simp; omega
    go_enter Try.func14, Try.ntmps14
    go_wp2
    go_ret
    exact SizeOk.no

/-- the same, of a call that makes memory -/
def SizeIn (P : Prop) (t0 : Nat) (w : World) (e : Ending) (w' : World) : Prop := ∃ t : Nat, e = .returned (.int .i64 (t : Int)) ∧ Below w.heap.size w w' ∧ t ≤ 2097152 ∧ (t ≤ 1048576 → t0 ≤ 1048576 ∧ P)

set_option maxHeartbeats 400000 in
theorem addPath (t0 : Nat) (x : PV) (w : World) (ht : t0 ≤ 2097152) (ho : x.o.size ≤ 9223372036854775807) (hf : ElemsFit x.el x.E) (hA : ElemsAt w w.heap.size x.er x.el x.E) :
    Calls Try.prog 13 #[.int .i64 (t0 : Int), .agg #[.string x.o, .slice x.er x.el x.ec]] w (SizeIn (ElemsSmall x.el x.E) t0 w) := by
  have b0 : Below w.heap.size w (w.alloc (.cells #[.string x.o, .slice x.er x.el x.ec] 38)) := (Below.refl _ _).alloc (Nat.le_refl _) _
  have HS := hide (addString t0 x.o (w.alloc (.cells #[.string x.o, .slice x.er x.el x.ec] 38)) ht ho)
  have HE := hide (fun t (h : t ≤ 2097152) => addElems t x.er x.el x.ec x.E (w.alloc (.cells #[.string x.o, .slice x.er x.el x.ec] 38)) h hf (hA.later b0 b0.size))
  have B0 := hide b0
  clear b0 hf hA
  go_enter Try.func13, Try.ntmps13
  go_wp2_with fail
  refine (unhide HS).mono ?_
  rintro e w' ⟨t1, rfl, rfl, h5, h6⟩
  have H6 := hide h6
  clear HS h6
  go_wp2_with fail
  refine (unhide HE t1 h5).mono ?_
  rintro e w' ⟨t2, rfl, rfl, h7, h8⟩
  have H8 := hide h8
  clear HE h8
  go_wp2
  go_ret
  exact ⟨t2, rfl, unhide B0, h7, fun h => ⟨(unhide H6 (unhide H8 h).1).1, (unhide H8 h).2⟩⟩

def PathsSmall (n : Nat) (P : Nat → PV) : Prop := n ≤ 65536 ∧ ∀ j, j < n → ElemsSmall (P j).el (P j).E
def PathsFit (n : Nat) (P : Nat → PV) : Prop := n ≤ 9223372036854775807 ∧ ∀ j, (P j).o.size ≤ 9223372036854775807 ∧ ElemsFit (P j).el (P j).E

set_option maxHeartbeats 1000000 in
theorem size (r1 r2 : Option Addr) (n1 c1 n2 c2 : Nat) (E : Nat → EV) (P : Nat → PV) (w : World) (hf1 : ElemsFit n1 E) (hf2 : PathsFit n2 P) (hA : ElemsAt w w.heap.size r1 n1 E) (hP : PathsAt w w.heap.size r2 n2 P) :
    Calls Try.prog 6 #[.slice r1 n1 c1, .slice r2 n2 c2] w (SizeIn (ElemsSmall n1 E ∧ PathsSmall n2 P) 0 w) := by
  have hn := hf2.1
  by_cases h2 : n2 ≤ 65536
  · have d2 : decide ((65536 : Int) < (n2 : Int)) = false := by simp; omega
    have HE := addElems (16 * n2) r1 n1 c1 E w (by omega) hf1 hA
    have e16 : ((16 * n2 : Nat) : Int) = 16 * (n2 : Int) := by omega
    rw [e16] at HE
    have HE := hide HE
    have HP := hide hP
    have HF := hide hf2
    clear hA hf1 hP hf2 e16
    go_enter Try.func6, Try.ntmps6
    go_wp2_with fail
    refine (unhide HE).mono ?_
    rintro e w' ⟨t1, rfl, rfl, h5, h6⟩
    have H6 := hide h6
    clear HE h6
    go_wp2_with fail
    go_loopw [5, 6] (fun z i wr => ∃ k t : Nat, k ≤ n2 ∧ i = .int .i64 k ∧ z = .int .i64 t ∧ t ≤ 2097152 ∧ (t ≤ 1048576 → t1 ≤ 1048576 ∧ ∀ j, j < k → ElemsSmall (P j).el (P j).E) ∧ Below w.heap.size w wr) (fun _ i _ => n2 - (intOf i).toNat)
    case atStart => exact ⟨0, t1, by omega, rfl, rfl, h5, fun h => ⟨h, fun j hj => absurd hj (by omega)⟩, Below.refl _ _⟩
    case round =>
      obtain ⟨k, t, hk, rfl, rfl, ht2, hall, hbel⟩ := hrel
      have HALL := hide hall
      have BE := hide hbel
      have PA := hide ((unhide HP).later hbel hbel.size)
      clear hall hbel
      by_cases hlt : k < n2
      · have d3 : decide ((k : Int) < (n2 : Int)) = true := by simp; omega
        by_cases h4 : t ≤ 1048576
        · have d4 : decide ((t : Int) ≤ 1048576) = true := by simp; omega
          obtain ⟨b, off, rfl, hb, hc⟩ := (unhide PA).1 (by omega)
          obtain ⟨g0, g1⟩ := hc k hlt
          have HS := hide (addPath t (P k) wr ht2 ((unhide HF).2 k).1 ((unhide HF).2 k).2 ((unhide PA).2 k hlt))
          clear hc
          go_wp2_with fail
          refine (unhide HS).mono ?_
          rintro e w3 ⟨t3, rfl, hb3, h7, h8⟩
          have H8 := hide h8
          have BE3 : Hid (Below w.heap.size w w3) := (unhide BE).trans (hb3.mono (unhide BE).size)
          clear HS h8 hb3 BE PA g0 g1
          go_wp2
          go_roundw
          case rel => exact ⟨k + 1, t3, by omega, by go_num, rfl, h7, fun h => ⟨(unhide HALL h4).1, fun j hj => by
            by_cases e : j = k
            · subst e; exact (unhide H8 h).2
            · exact (unhide HALL h4).2 j (by omega)⟩, unhide BE3⟩
          case measure => simp [intOf]; omega
        · have d4 : decide ((t : Int) ≤ 1048576) = false := by simp; omega
          go_wp2
          go_ret
          exact ⟨t, rfl, unhide BE, ht2, fun h => absurd h h4⟩
      · obtain rfl : k = n2 := by omega
        have d3 : decide ((k : Int) < (k : Int)) = false := by simp
        go_wp2
        go_ret
        exact ⟨t, rfl, unhide BE, ht2, fun h => ⟨by omega, (unhide H6 (unhide HALL h).1).2, h2, (unhide HALL h).2⟩⟩
  · have d2 : decide ((65536 : Int) < (n2 : Int)) = true := by simp; omega
    go_enter Try.func6, Try.ntmps6
    go_wp2
    go_ret
    exact ⟨1048577, rfl, Below.refl _ _, by omega, fun h => absurd h (by omega)⟩
end Go.Proofs.Qxb6623333a

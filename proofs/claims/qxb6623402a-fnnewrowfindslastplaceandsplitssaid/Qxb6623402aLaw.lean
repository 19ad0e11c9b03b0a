import Derived.Test.Qxb6623402aCopy
import Derived.Deep.CutRange
namespace Go.Proofs.Qxb6623402a
open Go.ChangeShapes Go.WideShapes Go.RowKit Go.Maps

def Done (w : World) (e : Ending) (w' : World) : Prop := e = .returned (.bool true) ∧ Below w.heap.size w w'

/-- the copy: the same names, in new memory or nil -/
def Cols (w : World) (n : Nat) (f : Nat → ByteArray) (s1 _s9 : Value) (w' : World) : Prop := ∃ R c, s1 = .slice R n c ∧ n ≤ c ∧ Below w.heap.size w w' ∧ StrsAt w' w'.heap.size R n f

theorem plainOf {rb n : Nat} {path : ByteArray} {f : Nat → ByteArray} {w : World} (h : RowIs w w.heap.size rb path f n) : Calls Try.prog 6 #[.pointer (some ⟨rb, 0, none⟩), .string path] w fun e w' => e = .returned (.bool true) ∧ Below w.heap.size w w' := by
  obtain ⟨_, h0, h1, h2, h4, _⟩ := h
  exact plainFields rb path w h0 h1 h2 h4

set_option maxHeartbeats 4000000 in
theorem law (path probe : ByteArray) (R : Option Addr) (n c : Nat) (cut : Int) (f : Nat → ByteArray) (w : World) (hp : path.size ≤ 65536) (hq : probe.size ≤ 65536) (hn : n ≤ 4096) (hnc : n ≤ c) (hR : R = none → n = 0) (hf : ∀ j, j < n → (f j).size ≤ maxLen) (hA : StrsAt w w.heap.size R n f) :
    Calls Try.prog 3 #[.string path, .slice R n c, .int .i64 cut, .string probe] w (Done w) := by
  have HBy := hide (bytes path probe R n c cut f w (by omega) (by omega) (by omega) (fun j hj => by have := hf j hj; unfold maxLen at this; omega) hA)
  have d1 : decide ((65536 : Int) < (path.size : Int)) = false := by simp; omega
  have d2 : decide ((65536 : Int) < (probe.size : Int)) = false := by simp; omega
  have d3 : decide ((4096 : Int) < (n : Int)) = false := by simp; omega
  have hnil := fun w => run_neq_slice_nil (P := Try.prog) w 22 9 R n c Try.underlying22
  have HA := hide hA
  have HF := hide hf
  have HR := hide hR
  clear hA hf hR
  go_enter Try.func3, Try.ntmps3
  go_wp2_with fail
  refine (unhide HBy).mono ?_
  rintro e w1 ⟨bo, rfl, rfl⟩
  cases bo
  · go_wp2
    go_ret
    exact ⟨rfl, Below.refl _ _⟩
  go_upto_if 35 with fail
  go_cut [1, 9] from 36 to 42 (Cols w n f)
  case first =>
    cases R with
    | none =>
      go_wp2
      go_meet
      case rel => exact ⟨none, c, rfl, hnc, Below.refl _ _, unhide HA⟩
    | some a =>
      obtain ⟨w2, cp, hb2, hs2⟩ := copy_strs w (some a) n c f (unhide HA)
      have hmk := make_run n hn w
      have B2 := hide hb2
      have S2 := hide hs2
      clear hb2 hs2
      go_wp2
      go_meet
      case rel => exact ⟨_, n, rfl, Nat.le_refl _, unhide B2, unhide S2⟩
  case rest =>
    obtain ⟨R', c', rfl, hc', hb1, hs1⟩ := hcut
    have B1 := hide hb1
    have S1 := hide hs1
    clear HBy d1 d2 d3 hnil HA HR hb1 hs1
    have t1 : decide ((1048576 : Int) < (path.size : Int) + (probe.size : Int) + 16 * (n : Int)) = false := by simp; omega
    go_wp2
    clear t1
    generalize (path.size : Int) + (probe.size : Int) + 16 * (n : Int) = t0 at *
    go_loop [10, 11] (fun z i => ∃ (k : Nat) (t : Int), k ≤ n ∧ i = .int .i64 k ∧ z = .int .i64 t) (fun _ i => n - (intOf i).toNat)
    case atStart => exact ⟨0, t0, by omega, rfl, rfl⟩
    case round =>
      obtain ⟨k, t, hk, rfl, rfl⟩ := hrel
      by_cases hlt : k < n
      · obtain ⟨b, off, rfl, hb, hc⟩ := (unhide S1) (by omega)
        have g0 := hc k hlt
        clear hc
        generalize f k = x at *
        obtain ⟨t', ht'⟩ : ∃ t', IntKind.i64.wrap (t + (x.size : Int)) = t' := ⟨_, rfl⟩
        cases hd : decide ((1048576 : Int) < t')
        · go_wp2
          go_round
          case rel => exact ⟨k + 1, t', by omega, by go_num, rfl⟩
          case measure => simp [intOf]; omega
        · go_wp2
          go_ret
          exact ⟨rfl, unhide B1⟩
      · obtain rfl : k = n := by omega
        by_cases h0 : cut < 0
        · have e0 : decide (cut < 0) = true := by simp; omega
          go_wp2
          go_ret
          exact ⟨rfl, unhide B1⟩
        by_cases h1 : (k : Int) < cut
        · have e0 : decide (cut < 0) = false := by simp; omega
          have e1 : decide ((k : Int) < cut) = true := by simp; omega
          go_wp2
          go_ret
          exact ⟨rfl, unhide B1⟩
        obtain ⟨q, rfl⟩ : ∃ q : Nat, cut = (q : Int) := ⟨cut.toNat, by omega⟩
        have hqk : q ≤ k := by omega
        have e0 : decide ((q : Int) < 0) = false := by simp
        have e1 : decide ((k : Int) < (q : Int)) = false := by simp; omega
        clear h0 h1
        obtain ⟨rf, cf, hrf, hsf⟩ := front R' k c' q hc' hqk
        obtain ⟨rg, cg, hrg, hsg⟩ := back R' k c' q hc' hqk
        have N1 := hide (newRow path R' k c' f wc hn (unhide HF) (unhide S1))
        have HSF := hide hsf
        have HSG := hide hsg
        clear hsf hsg hk hlt
        go_wp2_with fail
        clear hrf hrg
        refine (unhide N1).mono ?_
        rintro e w1 ⟨p1, rfl, hb1, hr1⟩
        have S2 := hide ((unhide S1).later hb1 hb1.size)
        have B2 := hide ((unhide B1).trans (hb1.mono (unhide B1).size))
        have R1 := hide hr1
        clear hb1 hr1 N1 S1 B1
        have N2 := hide (newRow path rf q cf f w1 (by omega) (fun j hj => unhide HF j (by omega)) (unhide HSF _ _ _ (unhide S2)))
        go_wp2_with fail
        refine (unhide N2).mono ?_
        rintro e w2 ⟨p2, rfl, hb2, hr2⟩
        have S3 := hide ((unhide S2).later hb2 hb2.size)
        have B3 := hide ((unhide B2).trans (hb2.mono (unhide B2).size))
        have R12 := hide ((unhide R1).later hb2 hb2.size)
        have R2 := hide hr2
        clear hb2 hr2 N2 S2 B2 R1
        have N3 := hide (newRow path rg (k - q) cg (fun j => f (q + j)) w2 (by omega) (fun j hj => unhide HF (q + j) (by omega)) (unhide HSG _ _ _ (unhide S3)))
        go_wp2_with fail
        refine (unhide N3).mono ?_
        rintro e w3 ⟨p3, rfl, hb3, hr3⟩
        have B4 := hide ((unhide B3).trans (hb3.mono (unhide B3).size))
        have SAY : Hid (Says p1 p2 p3 path R' k c' f q w3) := ⟨hn, hqk, (unhide S3).later hb3 hb3.size, (unhide R12).later hb3 hb3.size, (unhide R2).later hb3 hb3.size, hr3⟩
        clear hb3 hr3 N3 S3 B3 R12 R2 HSF HSG
        go_wp2_with fail
        refine (plainOf (unhide SAY).ofR).mono ?_
        rintro e w4 ⟨rfl, hb4⟩
        have SAY4 := hide ((unhide SAY).later hb4)
        have B5 := hide ((unhide B4).trans (hb4.mono (unhide B4).size))
        clear hb4 B4 SAY
        go_wp2_with fail
        refine (plainOf (unhide SAY4).ofA).mono ?_
        rintro e w5 ⟨rfl, hb5⟩
        have SAY5 := hide ((unhide SAY4).later hb5)
        have B6 := hide ((unhide B5).trans (hb5.mono (unhide B5).size))
        clear hb5 B5 SAY4
        go_wp2_with fail
        refine (plainOf (unhide SAY5).ofB).mono ?_
        rintro e w6 ⟨rfl, hb6⟩
        have SAY6 := hide ((unhide SAY5).later hb6)
        have B7 := hide ((unhide B6).trans (hb6.mono (unhide B6).size))
        clear hb6 B6 SAY5
        go_wp2_with fail
        go_loopw [17, 18] (fun i _ wr => ∃ j : Nat, j ≤ k + 1 ∧ i = .int .i64 j ∧ Says p1 p2 p3 path R' k c' f q wr ∧ Below w.heap.size w wr) (fun i _ _ => k + 1 - (intOf i).toNat)
        case atStart => exact ⟨0, by omega, rfl, unhide SAY6, unhide B7⟩
        case round =>
          clear SAY6 B7
          obtain ⟨j, hj, rfl, hsay, hbel⟩ := hrel
          have SAYJ := hide hsay
          have BJ := hide hbel
          clear hsay hbel
          by_cases hjk : j < k
          · obtain ⟨b, off, e, hb, hc⟩ := (unhide SAYJ).strs (by omega)
            subst e
            have g0 := hc j hjk
            clear hc
            have AG := hide (agrees p1 p2 p3 path (some ⟨b, off, none⟩) k c' f q (f j) wr (unhide SAYJ))
            have i1 : (0 : Int) ≤ (j : Int) := by omega
            have i2 : (j : Int) < (k : Int) := by omega
            have i3 : decide ((j : Int) ≤ (k : Int)) = true := by simp; omega
            generalize f j = x at *
            go_wp2_with fail
            refine (unhide AG).mono ?_
            rintro e w7 ⟨rfl, hb7⟩
            have SAY7 := hide ((unhide SAYJ).later hb7)
            have B8 := hide ((unhide BJ).trans (hb7.mono (unhide BJ).size))
            clear hb7 AG SAYJ BJ
            go_wp2
            go_roundw
            case rel => exact ⟨j + 1, by omega, by go_num, unhide SAY7, unhide B8⟩
            case measure => simp [intOf]; omega
          · by_cases hjj : j = k
            · subst hjj
              have AG := hide (agrees p1 p2 p3 path R' j c' f q probe wr (unhide SAYJ))
              go_wp2_with fail
              refine (unhide AG).mono ?_
              rintro e w7 ⟨rfl, hb7⟩
              have SAY7 := hide ((unhide SAYJ).later hb7)
              have B8 := hide ((unhide BJ).trans (hb7.mono (unhide BJ).size))
              clear hb7 AG SAYJ BJ
              go_wp2
              go_roundw
              case rel => exact ⟨j + 1, by omega, by go_num, unhide SAY7, unhide B8⟩
              case measure => simp [intOf]
            · obtain rfl : j = k + 1 := by omega
              have i3 : decide (((k + 1 : Nat) : Int) ≤ (k : Int)) = false := by simp; omega
              go_wp2
              go_ret
              exact ⟨rfl, unhide BJ⟩
end Go.Proofs.Qxb6623402a

import Derived.Test.Qxb6623402aNew
namespace Go.Proofs.Qxb6623402a
open Go.ChangeShapes Go.WideShapes Go.RowKit Go.Maps

theorem ownsMap_lt {w : World} {b n : Nat} {k : TypeId} {R : Value → Option (DataW Unit × List MemPlace)} {D : DataW Unit} (h : w.ownsMap Try.prog k R b n D) : b < w.heap.size := by
  obtain ⟨es, cl, h1, _⟩ := h
  exact (Array.getElem?_eq_some_iff.1 h1).1

theorem make_hint (n : Int) (w : World) : (Instr.makeMap 28 (some (.int .i64 n))).run Try.prog w = .ok (.map (some w.heap.size)) (w.alloc (.map #[] 0)) := by
  simp [Instr.makeMap, run_underlying Try.underlying28, asInt, asIntOf, Result.andThen]

theorem row_alloc {w : World} {pb n : Nat} {path : ByteArray} {f : Nat → ByteArray} (h : PlacesIs w w.heap.size pb f n) : RowIs (w.alloc (.cells #[.string path, .int .i64 0, .slice none 0 0, .pointer (some ⟨pb, 0, none⟩), .int .i64 0] 32)) (w.alloc (.cells #[.string path, .int .i64 0, .slice none 0 0, .pointer (some ⟨pb, 0, none⟩), .int .i64 0] 32)).heap.size w.heap.size path f n := by
  have hb : Below w.heap.size w (w.alloc (.cells #[.string path, .int .i64 0, .slice none 0 0, .pointer (some ⟨pb, 0, none⟩), .int .i64 0] 32)) := (Below.refl _ _).alloc (Nat.le_refl _) _
  refine ⟨by simp, ?_, ?_, ?_, ?_, pb, ?_, h.later hb hb.size⟩ <;> (rw [World.cell?_alloc_at _ _ _ _ rfl]; rfl)

set_option maxHeartbeats 1000000 in
/-- NewRow. -/
theorem newRow (path : ByteArray) (r : Option Addr) (n c : Nat) (f : Nat → ByteArray) (w : World) (hn : n ≤ 4096) (hf : ∀ j, j < n → (f j).size ≤ maxLen) (hA : StrsAt w w.heap.size r n f) :
    Calls Try.prog 5 #[.string path, .slice r n c] w fun e w' => ∃ rb, e = .returned (.pointer (some ⟨rb, 0, none⟩)) ∧ Below w.heap.size w w' ∧ RowIs w' w'.heap.size rb path f n := by
  have hmm := make_hint n
  have O0 := hide (World.ownsMap_made (H := Unit) w Try.prog 9 (plainElem Try.prog 3))
  have B0 : Hid (Below w.heap.size w (w.alloc (.map #[] 0))) := (Below.refl _ _).alloc (Nat.le_refl _) _
  have HA := hide hA
  have HF := hide hf
  clear hA hf
  go_enter Try.func5, Try.ntmps5
  go_wp2
  generalize w.alloc (.map #[] 0) = w0 at *
  clear hmm
  go_loopw [13] (fun i wr => ∃ j : Nat, j ≤ n ∧ i = .int .i64 j ∧ wr.ownsMap Try.prog 9 (plainElem Try.prog 3) w.heap.size j (DTo f j) ∧ Below w.heap.size w wr) (fun i _ => n - (intOf i).toNat)
  case atStart => exact ⟨0, by omega, rfl, unhide O0, unhide B0⟩
  case round =>
    clear O0 B0
    obtain ⟨j, hj, rfl, hown, hbel⟩ := hrel
    have OW := hide hown
    have BE := hide hbel
    clear hown hbel
    by_cases hlt : j < n
    · obtain ⟨b, off, rfl, hb, hc⟩ := (unhide HA) (by omega)
      have g := ((unhide BE).cell (p := ⟨b, off + j, none⟩) hb).trans (hc j hlt)
      obtain ⟨w2, hup, hown2, hgrow2⟩ := World.ownsMap.update (w := wr) (unhide OW) law9 Try.underlying28 (by unfold maxLen; omega) (WideMaps.keyOf_string_mk (P := Try.prog) (k := 9) Try.underlying9 (unhide HF j hlt)) (plainElem_int Try.underlying3 (a := (j : Int)) (WalkArith.wf_i64 (by omega)))
      have O2 : Hid (w2.ownsMap Try.prog 9 (plainElem Try.prog 3) w.heap.size (j + 1) (DTo f (j + 1))) := hown2
      have B2 : Hid (Below w.heap.size w w2) := (unhide BE).grown hgrow2 (unhide BE).size (fun q hq => by cases hq; exact Nat.le_refl _)
      clear hown2 hgrow2 hc
      have i1 : (0 : Int) ≤ (j : Int) := by omega
      have i2 : (j : Int) < (n : Int) := by omega
      generalize f j = sk at *
      go_wp2
      go_roundw
      case rel => exact ⟨j + 1, by omega, by go_num, unhide O2, unhide B2⟩
      case measure => simp [intOf]; omega
    · obtain rfl : j = n := by omega
      have HN := hide (newPlaces w.heap.size j f wr hn (ownsMap_lt (unhide OW)) (unhide OW))
      go_wp2_with fail
      refine (unhide HN).mono ?_
      rintro e w1 ⟨rfl, hb1, hp1⟩
      have B1 := hide ((unhide BE).trans (hb1.mono (unhide BE).size))
      have P1 := hide hp1
      clear hb1 hp1 HN
      go_wp2
      go_ret
      exact ⟨w1.heap.size, rfl, (unhide B1).alloc (unhide B1).size _, row_alloc (unhide P1)⟩
end Go.Proofs.Qxb6623402a

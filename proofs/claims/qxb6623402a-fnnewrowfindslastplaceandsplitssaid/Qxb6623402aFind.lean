import Derived.Test.Qxb6623402aSmall
namespace Go.Proofs.Qxb6623402a
open Go.ChangeShapes Go.WideShapes Go.RowKit Go.Maps

/-- what seek finds, from place k on -/
theorem seek_drop {x : ByteArray} {L : List (ByteArray × Nat)} {k : Nat} {s : ByteArray} {a : Nat} (h : L[k]? = some (s, a)) : seek x (L.drop k) = if s = x then some a else seek x (L.drop (k + 1)) := by
  have hk := (List.getElem?_eq_some_iff.1 h).1
  have e : L.drop k = (s, a) :: L.drop (k + 1) := by
    rw [List.drop_eq_getElem_cons hk]
    congr
    exact (List.getElem?_eq_some_iff.1 h).2
  rw [e]
  rfl

set_option maxHeartbeats 1000000 in
theorem find (pb c : Nat) (r : Option Addr) (x : ByteArray) (L : List (ByteArray × Nat)) (w : World) (hL : L.length ≤ 4096) (hc : w.cell? ⟨pb, bk x, none⟩ = some (.slice r L.length c))
    (hf : 0 < L.length → ∃ g, r = some ⟨g, 0, none⟩ ∧ g < w.heap.size ∧ ∀ j v, (flat L)[j]? = some v → w.cell? ⟨g, j, none⟩ = some v) :
    Calls Try.prog 13 #[.pointer (some ⟨pb, 0, none⟩), .string x] w fun e w' => e = .returned (.tuple #[.int .i64 (placeOf (seek x L)), .bool (seek x L).isSome]) ∧ Below w.heap.size w w' := by
  have HF := hide hf
  clear hf
  have hbk := bk_lt x
  generalize hbb : bk x = b at *
  have i1 : (0 : Int) ≤ (b : Int) := by omega
  have i2 : (b : Int) < 32 := by omega
  have hbu : ∀ w, Calls Try.prog 12 #[.pointer (some ⟨pb, 0, none⟩), .string x] w fun e w' => e = .returned (.int .i64 (b : Int)) ∧ w = w' := by rw [← hbb]; exact fun w => bucket _ _ w
  have HBU := hide hbu
  clear hbu hbb
  go_enter Try.func13, Try.ntmps13
  go_wp2
  go_region_held3 (fun w' => w'.cell? ⟨pb, b, none⟩ = some (.slice r L.length c)) (go_keep) (first | (go_at_call 12; refine (unhide HBU _).mono ?_; rintro e w1 ⟨rfl, rfl⟩))
  go_wp2
  clear HBU hc i1 i2 hbk
  go_loopw [16] (fun i wr => ∃ k : Nat, k ≤ L.length ∧ i = .int .i64 k ∧ seek x L = seek x (L.drop k) ∧ Below w.heap.size w wr) (fun i _ => L.length - (intOf i).toNat)
  case atStart => exact ⟨0, Nat.zero_le _, rfl, rfl, (Below.refl _ _).drew⟩
  case round =>
    obtain ⟨k, hk, rfl, he, hbel⟩ := hrel
    have HE := hide he
    have HB := hide hbel
    clear he hbel
    by_cases hlt : k < L.length
    · obtain ⟨g, rfl, hg, hf⟩ := (unhide HF) (by omega)
      obtain ⟨⟨s, a⟩, hsa⟩ : ∃ p, L[k]? = some p := ⟨_, List.getElem?_eq_getElem hlt⟩
      obtain ⟨f0, f1⟩ := flat_get L k s a hsa
      have g0 := ((unhide HB).cell (by exact hg)).trans (hf _ _ f0)
      have g1 := ((unhide HB).cell (by exact hg)).trans (hf _ _ f1)
      have HE2 := hide ((unhide HE).trans (seek_drop hsa))
      have hs := str_eq s x
      have B1 : Hid (Below w.heap.size w (wr.alloc (.cells #[.string s, .int .i64 (a : Int)] 43))) := (unhide HB).alloc (unhide HB).size _
      clear hf f0 f1 hsa HE
      have i1 : (0 : Int) ≤ (k : Int) := by omega
      have i2 : (k : Int) < (L.length : Int) := by omega
      generalize hN : L.length = N at *
      have HN := hide hN
      clear hN
      by_cases hy : s = x
      · rw [decide_eq_true hy] at hs
        have HY := hide hy
        clear hy
        go_wp2
        have e : seek x L = some a := by
          have h1 := unhide HE2
          rwa [if_pos (unhide HY)] at h1
        refine bodyPost_ret (v := .tuple #[.int .i64 (a : Int), .bool true]) (by simp [results, Try.results13, go_sem]) rfl ?_
        rw [e]
        exact ⟨rfl, unhide B1⟩
      · rw [decide_eq_false hy] at hs
        have HY := hide hy
        clear hy
        go_wp2
        go_roundw
        case rel => 
          have h1 := unhide HE2
          rw [if_neg (unhide HY)] at h1
          exact ⟨k + 1, by omega, by go_num, h1, unhide B1⟩
        case measure => simp [intOf]; omega
    · obtain rfl : k = L.length := by omega
      go_wp2
      have e : seek x L = none := by rw [unhide HE, List.drop_eq_nil_of_le (Nat.le_refl _)]; rfl
      refine bodyPost_ret (v := .tuple #[.int .i64 0, .bool false]) (by simp [results, Try.results13, go_sem]) rfl ?_
      rw [e]
      exact ⟨rfl, unhide HB⟩

/-- ZZRowFind: THE LAST PLACE, AND WHETHER THERE IS ONE. -/
theorem rowFind (rb : Nat) (path : ByteArray) (x : ByteArray) (f : Nat → ByteArray) (n : Nat) (w : World) (hn : n ≤ 4096) (h : RowIs w w.heap.size rb path f n) :
    Calls Try.prog 11 #[.pointer (some ⟨rb, 0, none⟩), .string x] w fun e w' => e = .returned (.tuple #[.int .i64 (placeOf (last f n x)), .bool (last f n x).isSome]) ∧ Below w.heap.size w w' := by
  obtain ⟨hr, _, _, _, _, pb, h3, hp⟩ := h
  obtain ⟨_, L, h1, h2⟩ := hp
  obtain ⟨r, c, e, h4, h5, h6⟩ := h1 (bk x) (bk_lt x)
  have HFI := find pb c r x (L (bk x)) w (by omega) e h4
  rw [seek_last h6 (h2 x)] at HFI
  have HF := hide HFI
  clear HFI h1 h2 h4 h5 h6 e hr
  go_enter Try.func11, Try.ntmps11
  go_wp2_with fail
  refine (unhide HF).mono ?_
  rintro e w1 ⟨rfl, hb⟩
  have HB := hide hb
  clear hb HF
  go_wp2
  refine bodyPost_ret (v := .tuple #[.int .i64 (placeOf (last f n x)), .bool (last f n x).isSome]) (by simp [results, Try.results11, go_sem]) rfl ?_
  exact ⟨rfl, unhide HB⟩
end Go.Proofs.Qxb6623402a

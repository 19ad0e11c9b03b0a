import Derived.Test.Qxb6623402aData
namespace Go.Proofs.Qxb6623402a
open Go.ChangeShapes Go.WideShapes Go.RowKit Go.Maps

theorem min_run (ts : Array TypeId) (t : TypeId) (x : ByteArray) (w : World) : (Builtin.min_ ts t #[.int .i64 (x.size : Int), .int .i64 31]).run Try.prog w = .ok (.int .i64 (bk x : Int)) w := by
  have h : (bk x : Int) = if (31 : Int) < (x.size : Int) then 31 else (x.size : Int) := by
    unfold bk
    by_cases h : 31 < x.size
    · rw [if_pos h, if_pos (by omega)]; rfl
    · rw [if_neg h, if_neg (by omega)]
  rw [h]; exact run_min_int2 w ts t .i64 .i64 _ _

theorem bucket (p : Value) (x : ByteArray) (w : World) : Calls Try.prog 12 #[p, .string x] w fun e w' => e = .returned (.int .i64 (bk x : Int)) ∧ w = w' := by
  have hm := fun ts t w => min_run ts t x w
  go_enter Try.func12, Try.ntmps12
  go_wp2
  go_ret
  exact ⟨rfl, rfl⟩

theorem str_eq (a b : ByteArray) : (a.toList == b.toList) = decide (a = b) := by
  rw [ByteArray.toList_eq, ByteArray.toList_eq]
  by_cases h : a = b
  · simp [h]
  · have : ¬ a.data.toList = b.data.toList := fun e => h (bytes_inj e)
    rw [decide_eq_false h, beq_eq_false_iff_ne]
    exact this

theorem below_drewN (B : Nat) (w : World) : ∀ q, Below B w (w.drewN q)
  | 0 => Below.refl _ _
  | q + 1 => (below_drewN B w q).drew

theorem rowPlain (rb : Nat) (path : ByteArray) (w : World) (h0 : w.cell? ⟨rb, 0, none⟩ = some (.string path)) (h1 : w.cell? ⟨rb, 1, none⟩ = some (.int .i64 0)) (h2 : w.cell? ⟨rb, 2, none⟩ = some (.slice none 0 0)) (h4 : w.cell? ⟨rb, 4, none⟩ = some (.int .i64 0)) :
    Calls Try.prog 9 #[.pointer (some ⟨rb, 0, none⟩)] w fun e w' => e = .returned (.tuple #[.string path, .int .i64 0, .slice none 0 0, .int .i64 0]) ∧ Below w.heap.size w w' := by
  go_enter Try.func9, Try.ntmps9
  go_wp2
  go_quiet (fail)
  go_wp2
  refine bodyPost_ret (v := .tuple #[.string path, .int .i64 0, .slice none 0 0, .int .i64 0]) (by simp [results, Try.results9, go_sem]) rfl ?_
  exact ⟨rfl, below_drewN _ _ _⟩

set_option maxHeartbeats 400000 in
theorem lastIndex (r : Option Addr) (n c : Nat) (f : Nat → ByteArray) (x : ByteArray) (w : World) (hn : n ≤ 4096) (h : StrsAt w w.heap.size r n f) :
    Calls Try.prog 10 #[.slice r n c, .string x] w fun e w' => e = .returned (.int .i64 (lastInt f n x)) ∧ w = w' := by
  have H := hide h
  clear h
  have hw : IntKind.i64.wrap ((n : Int) - 1) = (n : Int) - 1 := by rw [IntKind.wrap_i64]; omega
  go_enter Try.func10, Try.ntmps10
  go_wp2
  clear hw
  go_loop [5] (fun i => ∃ z : Int, i = .int .i64 z ∧ -1 ≤ z ∧ z < (n : Int) ∧ last f n x = last f (z + 1).toNat x) (fun i => (intOf i + 1).toNat)
  case atStart => exact ⟨(n : Int) - 1, rfl, by omega, by omega, by congr; omega⟩
  case round =>
    obtain ⟨z, rfl, hz1, hz2, he⟩ := hrel
    have HE := hide he
    clear he
    by_cases h0 : z < 0
    · obtain rfl : z = -1 := by omega
      go_wp2
      go_ret
      refine ⟨?_, rfl⟩
      have e : lastInt f n x = -1 := by
        unfold lastInt
        rw [unhide HE]
        rfl
      rw [e]
      rfl
    · obtain ⟨k, rfl⟩ : ∃ k : Nat, z = (k : Int) := ⟨z.toNat, by omega⟩
      obtain ⟨b, off, rfl, hlt, hc⟩ := (unhide H) (by omega)
      have g := hc k (by omega)
      have e1 : ((k : Int) + 1).toNat = k + 1 := by omega
      have HE2 := hide ((unhide HE).trans (by rw [e1, last_succ]))
      have i1 : (0 : Int) ≤ (k : Int) := by omega
      have hs := str_eq (f k) x
      have hw : IntKind.i64.wrap ((k : Int) - 1) = (k : Int) - 1 := by rw [IntKind.wrap_i64]; omega
      clear hc HE e1 hz1 h0
      generalize f k = y at *
      by_cases hy : y = x
      · rw [decide_eq_true hy] at hs
        have HY := hide hy
        clear hy
        go_wp2
        go_ret
        have h1 := unhide HE2
        rw [if_pos (unhide HY)] at h1
        refine ⟨?_, rfl⟩
        unfold lastInt
        rw [h1]
        rfl
      · rw [decide_eq_false hy] at hs
        have HY := hide hy
        clear hy
        go_wp2
        go_round
        case rel =>
          have h1 := unhide HE2
          rw [if_neg (unhide HY)] at h1
          exact ⟨(k : Int) - 1, rfl, by omega, by omega, h1.trans (by congr; omega)⟩
        case measure => simp [intOf]

theorem plainFields (rb : Nat) (path : ByteArray) (w : World) (h0 : w.cell? ⟨rb, 0, none⟩ = some (.string path)) (h1 : w.cell? ⟨rb, 1, none⟩ = some (.int .i64 0)) (h2 : w.cell? ⟨rb, 2, none⟩ = some (.slice none 0 0)) (h4 : w.cell? ⟨rb, 4, none⟩ = some (.int .i64 0)) :
    Calls Try.prog 6 #[.pointer (some ⟨rb, 0, none⟩), .string path] w fun e w' => e = .returned (.bool true) ∧ Below w.heap.size w w' := by
  have HR := hide (rowPlain rb path w h0 h1 h2 h4)
  have hs : (path.toList == path.toList) = true := by simp
  have hq := fun w => Lib.run_eql_slice_nil (P := Try.prog) w 22 9 none 0 0 0 0 Try.underlying22
  clear h0 h1 h2 h4
  go_enter Try.func6, Try.ntmps6
  go_wp2_with fail
  refine (unhide HR).mono ?_
  rintro e w1 ⟨rfl, hb⟩
  have HB := hide hb
  clear hb HR
  go_wp2
  go_ret
  exact ⟨rfl, unhide HB⟩
end Go.Proofs.Qxb6623402a

import Derived.Test.Qxb6623402aRow
import Derived.Test.Qxb6623402aAgrees
import Derived.Test.Qxb6623402aBytes
import Derived.Laws.CopyOwn
import Derived.Lib.SliceRun
namespace Go.Proofs.Qxb6623402a
open Go.ChangeShapes Go.WideShapes Go.RowKit Go.Maps

theorem Try.info9 : (Try.prog.info? 9).map (fun i => (i.zero, i.size, i.bytes)) = some (some (.string ⟨#[]⟩), 1, 16) := by kernel_rfl

theorem make_run (n : Nat) (hn : n ≤ 4096) (w : World) :
    (Instr.makeSlice 22 (.int .i64 (n : Int)) (.int .i64 (n : Int))).run Try.prog w = .ok (.slice (some ⟨w.heap.size, 0, none⟩) n n) (w.alloc (.cells (madeCells #[.string ⟨#[]⟩] n) 9)) := by
  obtain ⟨i, hi, hzz⟩ := Option.map_eq_some_iff.1 Try.info9
  simp only [Prod.mk.injEq] at hzz
  obtain ⟨hz, hs, hb⟩ := hzz
  have hr := run_make (P := Try.prog) w 22 9 i _ Try.underlying22 hi hz .i64 .i64 n n (by omega) (by omega) (by rw [hb]; omega) (by omega)
  simp only [Int.toNat_natCast, hs, Nat.mul_one] at hr
  exact hr

/-- the copy of the columns -/
theorem copy_strs (w : World) (r : Option Addr) (n c : Nat) (f : Nat → ByteArray) (h : StrsAt w w.heap.size r n f) :
    ∃ w2, (∀ ty, (Builtin.copy_ #[22, 22] ty #[.slice (some ⟨w.heap.size, 0, none⟩) n n, .slice r n c]).run Try.prog (w.alloc (.cells (madeCells #[.string ⟨#[]⟩] n) 9)) = .ok (goInt n) w2) ∧ Below w.heap.size w w2 ∧ StrsAt w2 w2.heap.size (some ⟨w.heap.size, 0, none⟩) n f := by
  have hsz : (Try.prog.info? 9).map (·.size) = some 1 := by kernel_rfl
  have hb0 : Below w.heap.size w (w.alloc (.cells (madeCells #[.string ⟨#[]⟩] n) 9)) := (Below.refl _ _).alloc (Nat.le_refl _) _
  by_cases hn : n = 0
  · subst hn
    exact ⟨_, fun ty => run_copy_none (P := Try.prog) _ 22 22 ty 9 _ _ 0 0 0 c Try.underlying22 hsz (by simp), hb0, fun h => absurd h (by omega)⟩
  · obtain ⟨b, off, rfl, hb, hc⟩ := h (by omega)
    obtain ⟨cur, hg, hcs, hcc⟩ := World.rowIs_made w (.string ⟨#[]⟩) n 9
    have hrun := fun ty => run_copy_row (P := Try.prog) (w.alloc (.cells (madeCells #[.string ⟨#[]⟩] n) 9)) 22 22 ty 9 w.heap.size 0 n n ⟨b, off, none⟩ n c cur 9 ((List.range n).map fun j => .string (f j)) Try.underlying22 hsz hg (by simp) (fun j v hj => by
      have hjl : j < n := by
        have := (List.getElem?_eq_some_iff.1 hj).1
        simpa using this
      rw [add_plain, hb0.cell (by exact hb), hc j hjl]
      simp [hjl] at hj
      rw [hj]) (by simp; omega) (fun v hv => by
        simp only [List.mem_map] at hv
        obtain ⟨j, _, rfl⟩ := hv
        rfl)
    simp only [List.length_map, List.length_range] at hrun
    have key : ∃ w2, (∀ ty, (Builtin.copy_ #[22, 22] ty #[.slice (some ⟨w.heap.size, 0, none⟩) n n, .slice (some ⟨b, off, none⟩) n c]).run Try.prog (w.alloc (.cells (madeCells #[.string ⟨#[]⟩] n) 9)) = .ok (goInt n) w2) ∧ w2.rowIs w.heap.size 9 n (fun j => .string (f j)) ∧ (w.alloc (.cells (madeCells #[.string ⟨#[]⟩] n) 9)).grownBy w2 (some w.heap.size) := by
      refine ⟨_, hrun, ⟨_, setRow_heap _ _ cur _ 9 _ hg, ?_, fun i hi => ?_⟩, ⟨rfl, rfl, rfl, by simp, fun k _ hk => setRow_other _ _ k _ (fun e => hk (by rw [e]))⟩⟩
      · simp; omega
      · simp only [List.take_zero, List.nil_append, Nat.zero_add, List.getElem?_toArray]
        rw [List.getElem?_append_left (by simpa using hi)]
        simp [hi]
    obtain ⟨w2, h1, h2, h3⟩ := key
    refine ⟨w2, h1, hb0.grown h3 (by simp) (fun k hk => by cases hk; exact Nat.le_refl _), fun _ => ⟨w.heap.size, 0, rfl, h2.lt, fun j hj => ?_⟩⟩
    rw [Nat.zero_add]
    exact h2.cell hj

theorem size9 (w : World) : (sizeOf 9).run Try.prog w = .ok 1 w := by
  obtain ⟨i, hi, hzz⟩ := Option.map_eq_some_iff.1 Try.info9
  simp only [Prod.mk.injEq] at hzz
  obtain ⟨hz, hs, hb⟩ := hzz
  simp [sizeOf, typeInfo, hi, hs, Result.andThen]

theorem elem22 : Try.prog.elem 22 = 9 := by simp [Program.elem, Try.underlying22]

/-- columns[:cut] -/
theorem front (r : Option Addr) (n c cut : Nat) (hc : n ≤ c) (hk : cut ≤ n) : ∃ r' c', (∀ w, (Instr.slice 22 (.slice r n c) none (some (.int .i64 (cut : Int))) none).run Try.prog w = .ok (.slice r' cut c') w) ∧ ∀ w B f, StrsAt w B r n f → StrsAt w B r' cut f := by
  refine ⟨if c = 0 then r else r.map (·.add (0 * 1)), c, fun w => ?_, fun w B f h h0 => ?_⟩
  · rw [run_slice_h w 22 r n c (by rw [elem22]; exact Try.underlying22) .i64 (cut : Int) (by omega) (by omega), elem22, size9]
    simp [Result.andThen, sliced]
  · obtain ⟨b, off, rfl, hb, hcc⟩ := h (by omega)
    refine ⟨b, off, ?_, hb, fun j hj => hcc j (by omega)⟩
    have : ¬ c = 0 := by omega
    simp [this, add_plain]

/-- columns[cut:] -/
theorem back (r : Option Addr) (n c cut : Nat) (hc : n ≤ c) (hk : cut ≤ n) : ∃ r' c', (∀ w, (Instr.slice 22 (.slice r n c) (some (.int .i64 (cut : Int))) none none).run Try.prog w = .ok (.slice r' (n - cut) c') w) ∧ ∀ w B f, StrsAt w B r n f → StrsAt w B r' (n - cut) (fun j => f (cut + j)) := by
  refine ⟨if c = cut then r else r.map (·.add (cut * 1)), c - cut, fun w => ?_, fun w B f h h0 => ?_⟩
  · rw [run_slice_l w 22 r n c (by rw [elem22]; exact Try.underlying22) .i64 (cut : Int) (by omega) (by omega), elem22, size9]
    simp [Result.andThen, sliced]
  · obtain ⟨b, off, rfl, hb, hcc⟩ := h (by omega)
    refine ⟨b, off + cut, ?_, hb, fun j hj => ?_⟩
    · have : ¬ c = cut := by omega
      simp [this, add_plain]
    · have := hcc (cut + j) (by omega)
      rwa [← Nat.add_assoc] at this
end Go.Proofs.Qxb6623402a

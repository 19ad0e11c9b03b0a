import Derived.Test.Qxb6623259aRows
import Derived.WalkKit
import Derived.Deep.QuietTactic
import Derived.BigQuiet
import Derived.WalkSpells
import Derived.WalkLawsBesides
import Derived.Deep.OwnRows
import Derived.Deep.RegionHeld3
import Derived.Laws.CopyOwn
import Derived.Lib.SliceRun
import Derived.Below
import Derived.WalkSmall
namespace Go.Proofs.Qxb6623259a
open Go.ChangeShapes Go.WideShapes Go.RowKit

theorem hide {p : Prop} (h : p) : Hid p := h
theorem unhide {p : Prop} (h : Hid p) : p := h

/-- THE BLOCKS OF K ARE AS THEY WERE; no block has gone. -/
structure Keeps (K : Nat → Prop) (w w' : World) : Prop where
  os : w'.os = w.os
  tape : w'.tape = w.tape
  output : w'.output = w.output
  size : w.heap.size ≤ w'.heap.size
  block : ∀ k, K k → w'.heap[k]? = w.heap[k]?
theorem Keeps.refl (K : Nat → Prop) (w : World) : Keeps K w w := ⟨rfl, rfl, rfl, Nat.le_refl _, fun _ _ => rfl⟩
theorem Keeps.trans {K : Nat → Prop} {a b c : World} (h : Keeps K a b) (k : Keeps K b c) : Keeps K a c :=
  ⟨k.os.trans h.os, k.tape.trans h.tape, k.output.trans h.output, Nat.le_trans h.size k.size, fun i hi => (k.block i hi).trans (h.block i hi)⟩
theorem Keeps.setCell {K : Nat → Prop} {a w : World} (h : Keeps K a w) {p : Addr} (hp : ¬ K p.block) (u : Value) : Keeps K a (w.setCell p u) :=
  h.trans ⟨rfl, rfl, rfl, by simp [World.setCell], fun k hk => Below.heap_setCell _ _ _ _ (fun e => hp (e ▸ hk))⟩
theorem Keeps.grown {K : Nat → Prop} {a w w' : World} (h : Keeps K a w) (hg : w.grownBy w' none) (hK : ∀ k, K k → k < w.heap.size) : Keeps K a w' :=
  h.trans ⟨hg.os, hg.tape, hg.output, hg.size, fun k hk => hg.block k (hK k hk) (by simp)⟩
theorem Keeps.below {B : Nat} {K : Nat → Prop} {w w' : World} (h : Keeps K w w') (hB : ∀ k, k < B → K k) : Below B w w' :=
  ⟨h.os, h.tape, h.output, h.size, fun k hk => h.block k (hB k hk)⟩

/-- the two cells of a Window -/
def winCells (top : Nat) (r : Option Addr) (len cap : Nat) : Nat → Value := fun j => if j = 0 then .int .u64 (top : Int) else .slice r len cap
/-- the cells of the ring -/
def ringCells (R : Nat → Nat) : Nat → Value := fun j => .int .u64 (R j : Int)

/-- the ring that r leads to: len blocks, cap cells, the numbers R; behind len all is 0 -/
structure Ring (w : World) (B : Nat → Prop) (wb : Nat) (r : Option Addr) (len cap : Nat) (R : Nat → Nat) : Prop where
  le : len ≤ cap
  capLe : cap ≤ 16385
  nil : cap = 0 → r = none
  row : 0 < cap → ∃ rb, r = some ⟨rb, 0, none⟩ ∧ ¬ B rb ∧ rb ≠ wb ∧ w.rowIs rb 24 cap (ringCells R)
  rest : ∀ j, len ≤ j → R j = 0
  small : ∀ j, R j < 18446744073709551616

structure Win (w : World) (B : Nat → Prop) (wb : Nat) (top : Nat) (r : Option Addr) (len cap : Nat) (R : Nat → Nat) : Prop where
  base : ¬ B wb
  win : w.rowIs wb 26 2 (winCells top r len cap)
  ring : Ring w B wb r len cap R

set_option maxHeartbeats 400000 in
theorem grow_no (B : Nat → Prop) (wb top len cap b : Nat) (r : Option Addr) (R : Nat → Nat) (w : World) (hb : (b : Int) < 18446744073709551616) (h : Win w B wb top r len cap R) (hl : (b : Int) + 1 ≤ len ∨ (len : Int) = 16385) :
    Calls Try.prog 8 #[.pointer (some ⟨wb, 0, none⟩), .int .u64 (b : Int)] w fun e w' => e = .returned (.tuple #[]) ∧ w = w' := by
  have c1 := h.win.cell (i := 1) (by omega)
  simp only [winCells, Nat.one_ne_zero, if_false] at c1
  have g1 : (len : Int) ≤ cap := by have := h.ring.le; omega
  have g2 : (cap : Int) ≤ 16385 := by have := h.ring.capLe; omega
  clear h
  by_cases h1 : (b : Int) < 16385
  · have h2 : (b : Int) + 1 ≤ len := by omega
    clear hl
    go_enter Try.func8, Try.ntmps8
    go_wp2
    refine bodyPost_ret (results_none rfl _ _ _) rfl ?_
    exact ⟨rfl, rfl⟩
  · have h2 : (16385 : Int) ≤ len := by omega
    clear hl
    go_enter Try.func8, Try.ntmps8
    go_wp2
    refine bodyPost_ret (results_none rfl _ _ _) rfl ?_
    exact ⟨rfl, rfl⟩

theorem Try.info24 : (Try.prog.info? 24).map (fun i => (i.zero, i.size, i.bytes)) = some (some (.int .u64 0), 1, 8) := by kernel_rfl

/-- how long the ring must be for block b -/
def nOf (b : Nat) : Nat := if b < 16385 then b + 1 else 16385

set_option maxHeartbeats 400000 in
/-- there is room: the slice is made longer in place. n: the new length. -/
theorem grow_room (wb len cap b : Nat) (rb : Nat) (w : World) (h1 : w.cell? ⟨wb, 1, none⟩ = some (.slice (some ⟨rb, 0, none⟩) len cap)) (h2 : w.frozen? ⟨wb, 1, none⟩ = false)
    (hb : (b : Int) < 288230376151711744) (hl : len < nOf b) (hc : nOf b ≤ cap) (hcap : cap ≤ 16385) :
    Calls Try.prog 8 #[.pointer (some ⟨wb, 0, none⟩), .int .u64 (b : Int)] w fun e w' => e = .returned (.tuple #[]) ∧ w.setCell ⟨wb, 1, none⟩ (.slice (some ⟨rb, 0, none⟩) (nOf b) cap) = w' := by
  unfold nOf at hl hc
  by_cases h3 : b < 16385
  · rw [if_pos h3] at hl hc
    have e1 : Hid (nOf b = b + 1) := by unfold Hid nOf; rw [if_pos h3]
    have hl' : (len : Int) < (b : Int) + 1 := by omega
    have hc' : (b : Int) + 1 ≤ cap := by omega
    have hcap' : (cap : Int) ≤ 16385 := by omega
    have d0 : decide ((b : Int) < 16385) = true := by simp; omega
    have d1 : decide ((b : Int) + 1 ≤ (len : Int)) = false := by simp; omega
    have d2 : decide ((cap : Int) < (b : Int) + 1) = false := by simp; omega
    clear h3 hl hc hcap
    go_enter Try.func8, Try.ntmps8
    go_wp2
    go_end0
    exact ⟨rfl, by rw [unhide e1]⟩
  · rw [if_neg h3] at hl hc
    obtain rfl : cap = 16385 := by omega
    have e1 : Hid (nOf b = 16385) := by unfold Hid nOf; rw [if_neg h3]
    have d0 : decide ((b : Int) < 16385) = false := by simp; omega
    have d1 : decide ((16385 : Int) ≤ (len : Int)) = false := by simp; omega
    clear h3 hl hc hcap
    go_enter Try.func8, Try.ntmps8
    go_wp2
    go_end0
    exact ⟨rfl, by rw [unhide e1]⟩

theorem max_run (ts : Array TypeId) (t : TypeId) (x y m : Int) (h : m = if y > x then y else x) (w : World) : (Builtin.max_ ts t #[.int .i64 x, .int .i64 y]).run Try.prog w = .ok (.int .i64 m) w := by
  rw [h]; exact run_max_int2 w ts t .i64 .i64 x y
theorem min_run (ts : Array TypeId) (t : TypeId) (x y m : Int) (h : m = if y < x then y else x) (w : World) : (Builtin.min_ ts t #[.int .i64 x, .int .i64 y]).run Try.prog w = .ok (.int .i64 m) w := by
  rw [h]; exact run_min_int2 w ts t .i64 .i64 x y

/-- 'make([]uint64, len, c)'. -/
theorem make_run (len c : Nat) (hl : len ≤ c) (hc : c ≤ 16385) (w : World) :
    (Instr.makeSlice 22 (.int .i64 (len : Int)) (.int .i64 (c : Int))).run Try.prog w = .ok (.slice (some ⟨w.heap.size, 0, none⟩) len c) (w.alloc (.cells (madeCells #[.int .u64 0] c) 24)) := by
  obtain ⟨i, hi, hzz⟩ := Option.map_eq_some_iff.1 Try.info24
  simp only [Prod.mk.injEq] at hzz
  obtain ⟨hz, hs, hb⟩ := hzz
  have hr := run_make (P := Try.prog) w 22 24 i _ Try.underlying22 hi hz .i64 .i64 len c (by omega) (by omega) (by rw [hb]; omega) (by omega)
  simp only [Int.toNat_natCast, hs, Nat.mul_one] at hr
  exact hr

/-- A copy into a new row of zeros: the row then holds the ring's numbers. -/
theorem copy_ring (w : World) (g C : Nat) (r : Option Addr) (len cap : Nat) (R : Nat → Nat) (hz : w.rowIs g 24 C (fun _ => .int .u64 0)) (hl : len ≤ cap) (hC : len ≤ C)
    (hr : 0 < cap → ∃ rb, r = some ⟨rb, 0, none⟩ ∧ rb ≠ g ∧ w.rowIs rb 24 cap (ringCells R)) (h0 : ∀ j, len ≤ j → R j = 0) :
    ∃ w2, (∀ ty, (Builtin.copy_ #[22, 22] ty #[.slice (some ⟨g, 0, none⟩) len C, .slice r len cap]).run Try.prog w = .ok (goInt len) w2) ∧ w2.rowIs g 24 C (ringCells R) ∧ w.grownBy w2 (some g) := by
  have hsz : (Try.prog.info? 24).map (·.size) = some 1 := by kernel_rfl
  by_cases hlen : len = 0
  · subst hlen
    refine ⟨w, fun ty => run_copy_none (P := Try.prog) w 22 22 ty 24 _ _ 0 C 0 cap Try.underlying22 hsz (by simp), hz.congr fun i _ => ?_, ⟨rfl, rfl, rfl, Nat.le_refl _, fun _ _ _ => rfl⟩⟩
    simp [ringCells, h0 i (Nat.zero_le _)]
  · obtain ⟨rb, rfl, hne, hrow⟩ := hr (by omega)
    obtain ⟨cur, hg, hcs, hc⟩ := hz
    have hrun := fun ty => run_copy_row (P := Try.prog) w 22 22 ty 24 g 0 len C ⟨rb, 0, none⟩ len cap cur 24 ((List.range len).map (ringCells R)) Try.underlying22 hsz hg (by simp) (fun j v hj => by
      have hjl : j < len := by
        have := (List.getElem?_eq_some_iff.1 hj).1
        simpa using this
      rw [add_plain, Nat.zero_add, hrow.cell (by omega)]
      simp [hjl] at hj
      rw [hj]) (by simp; omega) (fun v hv => by
        simp only [List.mem_map] at hv
        obtain ⟨j, _, rfl⟩ := hv
        rfl)
    simp only [List.length_map, List.length_range] at hrun
    refine ⟨_, hrun, ⟨_, setRow_heap w g cur _ 24 _ hg, ?_, fun i hi => ?_⟩, ⟨rfl, rfl, rfl, by simp, fun k _ hk => setRow_other w g k _ (fun e => hk (by rw [e]))⟩⟩
    · simp; omega
    · simp only [List.take_zero, List.nil_append, Nat.zero_add, List.getElem?_toArray]
      by_cases hil : i < len
      · rw [List.getElem?_append_left (by simpa using hil)]
        simp [hil]
      · rw [List.getElem?_append_right (by simp; omega)]
        simp only [List.length_map, List.length_range, List.getElem?_drop, Array.getElem?_toList]
        rw [show len + (i - len) = i by omega, hc i hi]
        simp [ringCells, h0 i (by omega)]

theorem grown_two (w : World) (o : Obj) (w2 : World) (h : ((w.alloc o).drew).grownBy w2 (some w.heap.size)) : w.grownBy w2 none :=
  ⟨h.os, h.tape, h.output, Nat.le_trans (by simp) h.size, fun k hk _ => (h.block k (by simp; omega) (fun e => by simp at e; omega)).trans (Below.heap_alloc w o k hk)⟩

set_option maxHeartbeats 1000000 in
theorem grow_make (wb len cap b : Nat) (r : Option Addr) (R : Nat → Nat) (w : World) (hwb : wb < w.heap.size) (h1 : w.cell? ⟨wb, 1, none⟩ = some (.slice r len cap)) (h2 : w.frozen? ⟨wb, 1, none⟩ = false)
    (hb : (b : Int) < 288230376151711744) (hl : len ≤ cap) (hc : cap < nOf b) (hring : 0 < cap → ∃ rb, r = some ⟨rb, 0, none⟩ ∧ rb < w.heap.size ∧ w.rowIs rb 24 cap (ringCells R)) (hrest : ∀ j, len ≤ j → R j = 0) :
    Calls Try.prog 8 #[.pointer (some ⟨wb, 0, none⟩), .int .u64 (b : Int)] w fun e w' => ∃ C w2, nOf b ≤ C ∧ C ≤ 16385 ∧ w2.rowIs w.heap.size 24 C (ringCells R) ∧ w.grownBy w2 none ∧ e = .returned (.tuple #[]) ∧
      w' = (w2.setCell ⟨wb, 1, none⟩ (.slice (some ⟨w.heap.size, 0, none⟩) len C)).setCell ⟨wb, 1, none⟩ (.slice (some ⟨w.heap.size, 0, none⟩) (nOf b) C) := by
  unfold nOf at hc
  by_cases h3 : b < 16385
  · rw [if_pos h3] at hc
    have e1 : Hid (nOf b = b + 1) := by unfold Hid nOf; rw [if_pos h3]
    have d0 : decide ((b : Int) < 16385) = true := by simp; omega
    obtain ⟨M, hM⟩ : ∃ M : Nat, (M : Int) = if (2 * (cap : Int)) > ((b : Int) + 1) then 2 * (cap : Int) else ((b : Int) + 1) := by
      by_cases h : (2 * (cap : Int)) > ((b : Int) + 1)
      · exact ⟨2 * cap, by rw [if_pos h]; omega⟩
      · exact ⟨b + 1, by rw [if_neg h]; omega⟩
    obtain ⟨C, hC⟩ : ∃ C : Nat, (C : Int) = if (16385 : Int) < (M : Int) then 16385 else (M : Int) := by
      by_cases h : (16385 : Int) < (M : Int)
      · exact ⟨16385, by rw [if_pos h]; rfl⟩
      · exact ⟨M, by rw [if_neg h]⟩
    have hC1 : b + 1 ≤ C ∧ C ≤ 16385 := by
      split at hM <;> split at hC <;> omega
    have m1 := fun ts t x => max_run ts t ((b : Int) + 1) (2 * (cap : Int)) M hM x
    have m2 := fun ts t x => min_run ts t (M : Int) 16385 C hC x
    have m3 := make_run len C (by omega) hC1.2
    have hw : IntKind.i64.wrap (2 * (cap : Int)) = 2 * (cap : Int) := by rw [IntKind.wrap_i64]; omega
    have hc' : (cap : Int) < ((b : Int) + 1) := by omega
    have hl' : (len : Int) ≤ cap := by omega
    have hC2 : ((b : Int) + 1) ≤ (C : Int) := by omega
    have d1 : decide (((b : Int) + 1) ≤ (len : Int)) = false := by simp; omega
    have d2 : decide ((cap : Int) < ((b : Int) + 1)) = true := by simp; omega
    have HC1 := hide hC1
    obtain ⟨w2, cp, hr2, hg2⟩ := copy_ring ((w.alloc (.cells (madeCells #[.int .u64 0] C) 24)).drew) w.heap.size C r len cap R (World.rowIs_made w (.int .u64 0) C 24).drew hl (by omega) (fun h0 => by
      obtain ⟨rb, e, hlt, hrow⟩ := hring h0
      exact ⟨rb, e, Nat.ne_of_lt hlt, (hrow.alloc _).drew⟩) hrest
    have hg3 : w.grownBy w2 none := grown_two w _ w2 hg2
    have k1 : w2.cell? ⟨wb, 1, none⟩ = some (.slice r len cap) := hg3.cell h1 (by simp)
    have k2 : w2.frozen? ⟨wb, 1, none⟩ = false := (World.frozen?_of_block (w := w) (hg3.block wb hwb (by simp))).trans h2
    have R2 := hide hr2
    have G3 := hide hg3
    clear hring hrest hr2 hg2 hg3 h3 hl hc hM hC hC1
    go_enter Try.func8, Try.ntmps8
    go_wp2
    go_region_held3 (fun w' => w'.cell? ⟨wb, 1, none⟩ = some (.slice r len cap)) (go_keep) (fail)
    clear m1 m2 m3 h1
    go_wp2
    go_end0
    exact ⟨C, w2, by rw [unhide e1]; exact (unhide HC1).1, (unhide HC1).2, unhide R2, unhide G3, rfl, by rw [unhide e1]⟩
  · rw [if_neg h3] at hc
    have e1 : Hid (nOf b = 16385) := by unfold Hid nOf; rw [if_neg h3]
    have d0 : decide ((b : Int) < 16385) = false := by simp; omega
    obtain ⟨M, hM⟩ : ∃ M : Nat, (M : Int) = if (2 * (cap : Int)) > (16385 : Int) then 2 * (cap : Int) else (16385 : Int) := by
      by_cases h : (2 * (cap : Int)) > (16385 : Int)
      · exact ⟨2 * cap, by rw [if_pos h]; omega⟩
      · exact ⟨16385, by rw [if_neg h]; omega⟩
    obtain ⟨C, hC⟩ : ∃ C : Nat, (C : Int) = if (16385 : Int) < (M : Int) then 16385 else (M : Int) := by
      by_cases h : (16385 : Int) < (M : Int)
      · exact ⟨16385, by rw [if_pos h]; rfl⟩
      · exact ⟨M, by rw [if_neg h]⟩
    have hC1 : 16385 ≤ C ∧ C ≤ 16385 := by
      split at hM <;> split at hC <;> omega
    have m1 := fun ts t x => max_run ts t (16385 : Int) (2 * (cap : Int)) M hM x
    have m2 := fun ts t x => min_run ts t (M : Int) 16385 C hC x
    have m3 := make_run len C (by omega) hC1.2
    have hw : IntKind.i64.wrap (2 * (cap : Int)) = 2 * (cap : Int) := by rw [IntKind.wrap_i64]; omega
    have hc' : (cap : Int) < (16385 : Int) := by omega
    have hl' : (len : Int) ≤ cap := by omega
    have hC2 : (16385 : Int) ≤ (C : Int) := by omega
    have d1 : decide ((16385 : Int) ≤ (len : Int)) = false := by simp; omega
    have d2 : decide ((cap : Int) < (16385 : Int)) = true := by simp; omega
    have HC1 := hide hC1
    obtain ⟨w2, cp, hr2, hg2⟩ := copy_ring ((w.alloc (.cells (madeCells #[.int .u64 0] C) 24)).drew) w.heap.size C r len cap R (World.rowIs_made w (.int .u64 0) C 24).drew hl (by omega) (fun h0 => by
      obtain ⟨rb, e, hlt, hrow⟩ := hring h0
      exact ⟨rb, e, Nat.ne_of_lt hlt, (hrow.alloc _).drew⟩) hrest
    have hg3 : w.grownBy w2 none := grown_two w _ w2 hg2
    have k1 : w2.cell? ⟨wb, 1, none⟩ = some (.slice r len cap) := hg3.cell h1 (by simp)
    have k2 : w2.frozen? ⟨wb, 1, none⟩ = false := (World.frozen?_of_block (w := w) (hg3.block wb hwb (by simp))).trans h2
    have R2 := hide hr2
    have G3 := hide hg3
    clear hring hrest hr2 hg2 hg3 h3 hl hc hM hC hC1
    go_enter Try.func8, Try.ntmps8
    go_wp2
    go_region_held3 (fun w' => w'.cell? ⟨wb, 1, none⟩ = some (.slice r len cap)) (go_keep) (fail)
    clear m1 m2 m3 h1
    go_wp2
    go_end0
    exact ⟨C, w2, by rw [unhide e1]; exact (unhide HC1).1, (unhide HC1).2, unhide R2, unhide G3, rfl, by rw [unhide e1]⟩

theorem win_set {w : World} {wb top len cap : Nat} {r : Option Addr} (h : w.rowIs wb 26 2 (winCells top r len cap)) (r' : Option Addr) (len' cap' : Nat) :
    (w.setCell ⟨wb, 1, none⟩ (.slice r' len' cap')).rowIs wb 26 2 (winCells top r' len' cap') := by
  refine (h.set 1 _).congr fun i hi => ?_
  unfold winCells
  by_cases e : i = 0
  · subst e; simp
  · have : i = 1 := by omega
    subst this; simp

theorem rowIs_grown {w w' : World} {b : Nat} {t : TypeId} {n : Nat} {f : Nat → Value} (h : w.rowIs b t n f) (hg : w.grownBy w' none) : w'.rowIs b t n f := h.of_block (hg.block b h.lt (by simp))

/-- THE CONTRACT OF grow: the ring is long enough for block b; its numbers are as they were. -/
theorem grow (B : Nat → Prop) (wb top len cap b : Nat) (r : Option Addr) (R : Nat → Nat) (w : World) (hb : (b : Int) < 288230376151711744) (h : Win w B wb top r len cap R) (hle : len ≤ nOf b) (hB : ∀ k, B k → k < w.heap.size) :
    Calls Try.prog 8 #[.pointer (some ⟨wb, 0, none⟩), .int .u64 (b : Int)] w fun e w' => e = .returned (.tuple #[]) ∧ ∃ r' cap', Win w' B wb top r' (nOf b) cap' R ∧ Keeps B w w' := by
  have c1 : w.cell? ⟨wb, 1, none⟩ = some (.slice r len cap) := by
    have := h.win.cell (i := 1) (by omega)
    simpa [winCells] using this
  have f1 := h.win.frozen 1
  by_cases h1 : len = nOf b
  · subst h1
    refine (grow_no B wb top _ cap b r R w (by omega) h ?_).mono ?_
    · unfold nOf
      split <;> omega
    · rintro e w' ⟨rfl, rfl⟩
      exact ⟨rfl, r, cap, h, Keeps.refl _ _⟩
  · have hlt : len < nOf b := by omega
    by_cases h2 : nOf b ≤ cap
    · obtain ⟨rb, rfl, hrb, hne, hrow⟩ := h.ring.row (by omega)
      refine (grow_room wb len cap b rb w c1 f1 hb hlt h2 h.ring.capLe).mono ?_
      rintro e w' ⟨rfl, rfl⟩
      refine ⟨rfl, _, cap, ⟨h.base, win_set h.win _ _ _, ⟨h2, h.ring.capLe, fun e => by omega, fun _ => ⟨rb, rfl, hrb, hne, hrow.setOther (by simpa using hne) _⟩, fun j hj => h.ring.rest j (by omega), h.ring.small⟩⟩, (Keeps.refl _ _).setCell h.base _⟩
    · refine (grow_make wb len cap b r R w h.win.lt c1 f1 hb h.ring.le (by omega) (fun h0 => ?_) h.ring.rest).mono ?_
      · obtain ⟨rb, e, _, _, hrow⟩ := h.ring.row h0
        exact ⟨rb, e, hrow.lt, hrow⟩
      · rintro e w' ⟨C, w2, hC1, hC2, hr2, hg, rfl, rfl⟩
        have hne : w.heap.size ≠ wb := Nat.ne_of_gt h.win.lt
        refine ⟨rfl, _, C, ⟨h.base, win_set (win_set (rowIs_grown h.win hg) _ _ _) _ _ _, ⟨hC1, hC2, fun e => by omega, fun _ => ⟨_, rfl, fun h => Nat.lt_irrefl _ (hB _ h), hne, (hr2.setOther (by simpa using hne) _).setOther (by simpa using hne) _⟩, fun j hj => h.ring.rest j (by omega), h.ring.small⟩⟩, ?_⟩
        exact (((Keeps.refl _ _).grown hg hB).setCell h.base _).setCell h.base _
end Go.Proofs.Qxb6623259a

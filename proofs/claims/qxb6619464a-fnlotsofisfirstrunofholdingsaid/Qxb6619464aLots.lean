import Derived.Test.Qxb6619464aDays
import Derived.Deep.OwnRows
import Derived.Deep.RegionHeld3
import Derived.BigRegion
import Derived.Below
import Derived.WalkSmall
namespace Go.Proofs.Qxb6619464a
open Go.ChangeShapes Go.WideShapes Go.RowKit

/-- ONE LOT, as its five fields. -/
structure LotV where
  a : ByteArray
  s : ByteArray
  c : ByteArray
  d : Int
  n : Int

/-- The slice of lots (5 cells a lot) that 'r' leads to, n of them, below block number B. -/
def LotsAt (w : World) (B : Nat) (r : Option Addr) (n : Nat) (L : Nat → LotV) : Prop :=
  0 < n → ∃ b off, r = some ⟨b, off, none⟩ ∧ b < B ∧ ∀ j, j < n →
    w.cell? ⟨b, off + j * 5, none⟩ = some (.string (L j).a) ∧ w.cell? ⟨b, off + j * 5 + 1, none⟩ = some (.string (L j).s) ∧ w.cell? ⟨b, off + j * 5 + 2, none⟩ = some (.string (L j).c) ∧
    w.cell? ⟨b, off + j * 5 + 3, none⟩ = some (.int .i32 (L j).d) ∧ w.cell? ⟨b, off + j * 5 + 4, none⟩ = some (.int .i64 (L j).n)

theorem LotsAt.later {w w' : World} {B B' : Nat} {r : Option Addr} {n : Nat} {L : Nat → LotV} (h : LotsAt w B r n L) (hb : Below B w w') (hB : B ≤ B') : LotsAt w' B' r n L := by
  intro hn
  obtain ⟨b, off, e, hlt, hc⟩ := h hn
  refine ⟨b, off, e, Nat.lt_of_lt_of_le hlt hB, fun j hj => ?_⟩
  obtain ⟨h0, h1, h2, h3, h4⟩ := hc j hj
  exact ⟨(hb.cell (by exact hlt)).trans h0, (hb.cell (by exact hlt)).trans h1, (hb.cell (by exact hlt)).trans h2, (hb.cell (by exact hlt)).trans h3, (hb.cell (by exact hlt)).trans h4⟩

/-- cell i of a lot -/
def LotV.at (x : LotV) (i : Nat) : Value :=
  if i = 0 then .string x.a else if i = 1 then .string x.s else if i = 2 then .string x.c else if i = 3 then .int .i32 x.d else .int .i64 x.n
def zLot : LotV := ⟨ByteArray.empty, ByteArray.empty, ByteArray.empty, 0, 0⟩

/-- the new row after k rounds -/
def lotCells (L : Nat → LotV) (k : Nat) : Nat → Value := fun j => if j < k * 5 then (L (j / 5)).at (j % 5) else zLot.at (j % 5)

theorem Try.info41 : (Try.prog.info? 41).map (fun i => (i.zero, i.size, i.bytes)) = some (some (.agg #[.string ⟨#[]⟩, .string ⟨#[]⟩, .string ⟨#[]⟩, .int .i32 0, .int .i64 0]), 5, 64) := by kernel_rfl

/-- 'make([]Lot, n)'. -/
theorem make_lots (n : Nat) (hn : n ≤ 1048576) (w : World) :
    (Instr.makeSlice 27 (.int .i64 (n : Int)) (.int .i64 (n : Int))).run Try.prog w = .ok (.slice (some ⟨w.heap.size, 0, none⟩) n n) (w.alloc (.cells (madeCells #[.string ⟨#[]⟩, .string ⟨#[]⟩, .string ⟨#[]⟩, .int .i32 0, .int .i64 0] (n * 5)) 41)) := by
  obtain ⟨i, hi, hzz⟩ := Option.map_eq_some_iff.1 Try.info41
  simp only [Prod.mk.injEq] at hzz
  obtain ⟨hz, hs, hb⟩ := hzz
  have hr := run_make (P := Try.prog) w 27 41 i _ Try.underlying27 hi hz .i64 .i64 n n (by omega) (Int.le_refl _) (by rw [hb]; omega) (by omega)
  simp only [Int.toNat_natCast, hs] at hr
  exact hr

theorem row_made (n : Nat) (w : World) (L : Nat → LotV) :
    (w.alloc (.cells (madeCells #[.string ⟨#[]⟩, .string ⟨#[]⟩, .string ⟨#[]⟩, .int .i32 0, .int .i64 0] (n * 5)) 41)).rowIs w.heap.size 41 (n * 5) (lotCells L 0) := by
  have h := World.rowIs_alloc w (madeCells #[.string ⟨#[]⟩, .string ⟨#[]⟩, .string ⟨#[]⟩, .int .i32 0, .int .i64 0] (n * 5)) 41 (lotCells L 0) (fun i hi => ?_)
  · rwa [size_madeCells] at h
  rw [size_madeCells] at hi
  have h5 : i % 5 < 5 := Nat.mod_lt _ (by omega)
  simp only [madeCells, Array.getElem?_map, Array.getElem?_range, hi, if_true]
  simp only [lotCells, Nat.zero_mul, Nat.not_lt_zero, if_false, Option.map_some, LotV.at, zLot]
  match h : i % 5, h5 with
  | 0, _ => simp; rfl
  | 1, _ => simp; rfl
  | 2, _ => simp; rfl
  | 3, _ => simp
  | 4, _ => simp

/-- a lot stored at place k -/
def setLot (w : World) (B k : Nat) (y : LotV) : World :=
  ((((w.setCell ⟨B, k * 5, none⟩ (.string y.a)).setCell ⟨B, k * 5 + 1, none⟩ (.string y.s)).setCell ⟨B, k * 5 + 2, none⟩ (.string y.c)).setCell ⟨B, k * 5 + 3, none⟩ (.int .i32 y.d)).setCell ⟨B, k * 5 + 4, none⟩ (.int .i64 y.n)

theorem lot_set {w : World} {B n k : Nat} {L : Nat → LotV} (h : w.rowIs B 41 (n * 5) (lotCells L k)) : (setLot w B k (L k)).rowIs B 41 (n * 5) (lotCells L (k + 1)) := by
  refine (((((h.set (k * 5) (.string (L k).a)).set (k * 5 + 1) (.string (L k).s)).set (k * 5 + 2) (.string (L k).c)).set (k * 5 + 3) (.int .i32 (L k).d)).set (k * 5 + 4) (.int .i64 (L k).n)).congr fun i hi => ?_
  unfold lotCells
  by_cases h1 : i < k * 5
  · have a0 : ¬ i = k * 5 := by omega
    have a1 : ¬ i = k * 5 + 1 := by omega
    have a2 : ¬ i = k * 5 + 2 := by omega
    have a3 : ¬ i = k * 5 + 3 := by omega
    have a4 : ¬ i = k * 5 + 4 := by omega
    have a5 : i < (k + 1) * 5 := by omega
    simp only [a0, a1, a2, a3, a4, a5, h1, if_true, if_false]
  · by_cases h2 : i < (k + 1) * 5
    · have hd : i / 5 = k := by omega
      simp only [h2, if_true, hd]
      have hr : i = k * 5 ∨ i = k * 5 + 1 ∨ i = k * 5 + 2 ∨ i = k * 5 + 3 ∨ i = k * 5 + 4 := by omega
      rcases hr with rfl | rfl | rfl | rfl | rfl
      · have e : k * 5 % 5 = 0 := by omega
        simp [e, LotV.at]
      · have e : (k * 5 + 1) % 5 = 1 := by omega
        simp [e, LotV.at]
      · have e : (k * 5 + 2) % 5 = 2 := by omega
        simp [e, LotV.at]
      · have e : (k * 5 + 3) % 5 = 3 := by omega
        simp [e, LotV.at]
      · have e : (k * 5 + 4) % 5 = 4 := by omega
        simp [e, LotV.at]
    · have a0 : ¬ i = k * 5 := by omega
      have a1 : ¬ i = k * 5 + 1 := by omega
      have a2 : ¬ i = k * 5 + 2 := by omega
      have a3 : ¬ i = k * 5 + 3 := by omega
      have a4 : ¬ i = k * 5 + 4 := by omega
      simp only [a0, a1, a2, a3, a4, h1, h2, if_false]

theorem Below.setLot {w w' : World} {B k b : Nat} {y : LotV} (h : Below B w w') (hb : B ≤ b) : Below B w (setLot w' b k y) :=
  ((((h.setCell (p := ⟨b, k * 5, none⟩) hb _).setCell (p := ⟨b, k * 5 + 1, none⟩) hb _).setCell (p := ⟨b, k * 5 + 2, none⟩) hb _).setCell (p := ⟨b, k * 5 + 3, none⟩) hb _).setCell (p := ⟨b, k * 5 + 4, none⟩) hb _

set_option maxHeartbeats 2000000 in
theorem toLots_some (x : Addr) (n c : Nat) (L : Nat → LotV) (w : World) (hn : n ≤ 1048576) (hA : LotsAt w w.heap.size (some x) n L) :
    Calls Try.prog 9 #[.slice (some x) n c] w fun e w' => e = .returned (.slice (some ⟨w.heap.size, 0, none⟩) n n) ∧ Below w.heap.size w w' ∧ w'.rowIs w.heap.size 41 (n * 5) (lotCells L n) := by
  have hmk := make_lots n hn w
  have R0 := hide (row_made n w L)
  have B0 : Hid (Below w.heap.size w (w.alloc (.cells (madeCells #[.string ⟨#[]⟩, .string ⟨#[]⟩, .string ⟨#[]⟩, .int .i32 0, .int .i64 0] (n * 5)) 41))) := (Below.refl _ _).alloc (Nat.le_refl _) _
  have HA := hide hA
  clear hA
  have hq := fun w => Lib.run_eql_slice_nil (P := Try.prog) w 22 25 (some x) n c 0 0 Try.underlying22
  go_enter Try.func9, Try.ntmps9
  go_wp2
  go_loopw [4] (fun i wr => ∃ k : Nat, k ≤ n ∧ i = .int .i64 k ∧ wr.rowIs w.heap.size 41 (n * 5) (lotCells L k) ∧ Below w.heap.size w wr) (fun i _ => n - (intOf i).toNat)
  case atStart => exact ⟨0, Nat.zero_le _, rfl, unhide R0, unhide B0⟩
  case round =>
    obtain ⟨k, hk, rfl, hrow, hbel⟩ := hrel
    clear hmk R0 B0 hq
    have ROW := hide hrow
    have BEL := hide hbel
    clear hrow hbel
    by_cases hlt : k < n
    · obtain ⟨b, off, e, hb, hc⟩ := unhide HA (by omega)
      cases e
      obtain ⟨h0, h1, h2, h3, h4⟩ := hc k hlt
      have g0 := ((unhide BEL).cell (p := ⟨b, off + k * 5, none⟩) hb).trans h0
      have g1 := ((unhide BEL).cell (p := ⟨b, off + k * 5 + 1, none⟩) hb).trans h1
      have g2 := ((unhide BEL).cell (p := ⟨b, off + k * 5 + 2, none⟩) hb).trans h2
      have g3 := ((unhide BEL).cell (p := ⟨b, off + k * 5 + 3, none⟩) hb).trans h3
      have g4 := ((unhide BEL).cell (p := ⟨b, off + k * 5 + 4, none⟩) hb).trans h4
      clear h0 h1 h2 h3 h4 hc
      have r0 := (unhide ROW).cell (i := k * 5) (by omega)
      have r1 := (unhide ROW).cell (i := k * 5 + 1) (by omega)
      have r2 := (unhide ROW).cell (i := k * 5 + 2) (by omega)
      have r3 := (unhide ROW).cell (i := k * 5 + 3) (by omega)
      have r4 := (unhide ROW).cell (i := k * 5 + 4) (by omega)
      have f0 := (unhide ROW).frozen (k * 5)
      have f1 := (unhide ROW).frozen (k * 5 + 1)
      have f2 := (unhide ROW).frozen (k * 5 + 2)
      have f3 := (unhide ROW).frozen (k * 5 + 3)
      have f4 := (unhide ROW).frozen (k * 5 + 4)
      have n1 : ¬ b = w.heap.size := by omega
      have n2 : ¬ w.heap.size = b := by omega
      have i1 : (0 : Int) ≤ (k : Int) := by omega
      have i2 : (k : Int) < (n : Int) := by omega
      have ROW2 := hide (lot_set (unhide ROW))
      have BEL2 := hide (Below.setLot (k := k) (y := L k) (unhide BEL) (Nat.le_refl _))
      clear ROW BEL
      generalize L k = y at g0 g1 g2 g3 g4 ROW2 BEL2
      obtain ⟨ya, ys, yc, yd, yn⟩ := y
      simp only at g0 g1 g2 g3 g4
      go_wp2
      go_region_held3 (fun w' => w'.cell? ⟨b, off + k * 5, none⟩ = some (.string ya) ∧ w'.cell? ⟨b, off + k * 5 + 1, none⟩ = some (.string ys) ∧ w'.cell? ⟨b, off + k * 5 + 2, none⟩ = some (.string yc) ∧ w'.cell? ⟨b, off + k * 5 + 3, none⟩ = some (.int .i32 yd) ∧ w'.cell? ⟨b, off + k * 5 + 4, none⟩ = some (.int .i64 yn)) (go_keep) (fail)
      go_wp2
      go_roundw
      case rel => exact ⟨k + 1, by omega, by go_num, (unhide ROW2).drew, (unhide BEL2).drew⟩
      case measure => simp [intOf]; omega
    · obtain rfl : k = n := by omega
      go_wp2
      go_ret
      exact ⟨rfl, unhide BEL, unhide ROW⟩

theorem toLots_none (c : Nat) (w : World) : Calls Try.prog 9 #[.slice none 0 c] w fun e w' => e = .returned (.slice none 0 0) ∧ w = w' := by
  have hq := fun w => Lib.run_eql_slice_nil (P := Try.prog) w 22 25 none 0 c 0 0 Try.underlying22
  go_enter Try.func9, Try.ntmps9
  go_wp2
  go_ret
  exact ⟨rfl, rfl⟩

theorem lotsAt_row {w : World} {b n : Nat} {L : Nat → LotV} (h : w.rowIs b 41 (n * 5) (lotCells L n)) : LotsAt w w.heap.size (some ⟨b, 0, none⟩) n L := by
  intro _
  refine ⟨b, 0, rfl, h.lt, fun j hj => ?_⟩
  have key : ∀ r, r < 5 → w.cell? ⟨b, 0 + j * 5 + r, none⟩ = some ((L j).at r) := by
    intro r hr
    rw [Nat.zero_add, h.cell (i := j * 5 + r) (by omega)]
    have e1 : j * 5 + r < n * 5 := by omega
    have e2 : (j * 5 + r) / 5 = j := by omega
    have e3 : (j * 5 + r) % 5 = r := by omega
    simp only [lotCells, e1, e2, e3, if_true]
  exact ⟨key 0 (by omega), key 1 (by omega), key 2 (by omega), key 3 (by omega), key 4 (by omega)⟩

/-- zzToLots: the same lots, in new memory (nil of nil). -/
theorem toLots (a : Option Addr) (n c : Nat) (L : Nat → LotV) (w : World) (hn : n ≤ 1048576) (ha : a = none → n = 0) (hA : LotsAt w w.heap.size a n L) :
    Calls Try.prog 9 #[.slice a n c] w fun e w' => ∃ r, e = .returned (.slice r n n) ∧ Below w.heap.size w w' ∧ LotsAt w' w'.heap.size r n L := by
  cases a with
  | none =>
    obtain rfl := ha rfl
    refine (toLots_none c w).mono ?_
    rintro e w' ⟨rfl, rfl⟩
    exact ⟨none, rfl, Below.refl _ _, fun h => absurd h (by omega)⟩
  | some x =>
    refine (toLots_some x n c L w hn hA).mono ?_
    rintro e w' ⟨rfl, hb, hr⟩
    exact ⟨_, rfl, hb, lotsAt_row hr⟩

/-- IS THE LOT OF THE SHARE hs AND THE CHANNEL hc? -/
def ofB (y : LotV) (hs hc : ByteArray) : Bool := y.s.toList == hs.toList && y.c.toList == hc.toList

set_option maxHeartbeats 400000 in
theorem ofHolding (B o : Nat) (s c ha hs hc : ByteArray) (w : World) (hB : B < w.heap.size) (h1 : w.cell? ⟨B, o + 1, none⟩ = some (.string s)) (h2 : w.cell? ⟨B, o + 2, none⟩ = some (.string c)) :
    Calls Try.prog 22 #[.pointer (some ⟨B, o, none⟩), .agg #[.string ha, .string hs, .string hc]] w fun e w' => e = .returned (.bool (s.toList == hs.toList && c.toList == hc.toList)) ∧ Below w.heap.size w w' := by
  cases hq : s.toList == hs.toList
  · go_enter Try.func22, Try.ntmps22
    go_wp2
    go_quiet (fail)
    go_wp2
    go_ret
    exact ⟨rfl, below_drewN ((Below.refl _ _).alloc (Nat.le_refl _) _) _⟩
  · go_enter Try.func22, Try.ntmps22
    go_wp2
    go_quiet (fail)
    go_wp2
    go_ret
    exact ⟨rfl, below_drewN ((Below.refl _ _).alloc (Nat.le_refl _) _) _⟩
end Go.Proofs.Qxb6619464a

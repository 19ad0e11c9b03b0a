import Derived.Test.Qxb6619464aLots
import Derived.Deep.Slices
import Derived.ProofKit
namespace Go.Proofs.Qxb6619464a
open Go.ChangeShapes Go.WideShapes Go.RowKit

theorem cells25 : Try.prog.cellsOf 25 = 5 := by kernel_rfl
theorem cells9 : Try.prog.cellsOf 9 = 1 := by kernel_rfl
theorem cells2 : Try.prog.cellsOf 2 = 1 := by kernel_rfl
theorem cells21 : Try.prog.cellsOf 21 = 1 := by kernel_rfl

/-- ONE LOT, OPENED. -/
theorem open_lot {H : Type} {enc : TypeId × Value → H} {W : World} {fuel : Nat} {u0 u1 u2 u3 u4 : Value} {x : DataW H × List MemPlace}
    (h : DataW.trod enc Try.prog W 0 (fun _ => true) true fuel 25 [u0, u1, u2, u3, u4] = some x) :
    ∃ y : LotV, u0 = .string y.a ∧ u1 = .string y.s ∧ u2 = .string y.c ∧ u3 = .int .i32 y.d ∧ u4 = .int .i64 y.n ∧ y.a.size ≤ maxLen ∧ y.s.size ≤ maxLen ∧ y.c.size ≤ maxLen := by
  obtain ⟨xs, n, _, _, _, hlen, hf⟩ := DataW.trod_struct Try.underlying25 h
  match xs, hlen with
  | [z0, z1, z2, z3, z4], _ =>
    have t0 : DataW.trod enc Try.prog W 0 (fun _ => true) true n 9 (([u0, u1, u2, u3, u4].drop 0).take (Try.prog.cellsOf 9)) = some z0 := hf 0 _ rfl
    have t1 : DataW.trod enc Try.prog W 0 (fun _ => true) true n 9 (([u0, u1, u2, u3, u4].drop 1).take (Try.prog.cellsOf 9)) = some z1 := hf 1 _ rfl
    have t2 : DataW.trod enc Try.prog W 0 (fun _ => true) true n 9 (([u0, u1, u2, u3, u4].drop 2).take (Try.prog.cellsOf 9)) = some z2 := hf 2 _ rfl
    have t3 : DataW.trod enc Try.prog W 0 (fun _ => true) true n 21 (([u0, u1, u2, u3, u4].drop 3).take (Try.prog.cellsOf 21)) = some z3 := hf 3 _ rfl
    have t4 : DataW.trod enc Try.prog W 0 (fun _ => true) true n 2 (([u0, u1, u2, u3, u4].drop 4).take (Try.prog.cellsOf 2)) = some z4 := hf 4 _ rfl
    rw [cells9] at t0 t1 t2
    rw [cells21] at t3
    rw [cells2] at t4
    obtain ⟨s0, e0, _, l0⟩ := DataW.trod_string Try.underlying9 t0
    obtain ⟨s1, e1, _, l1⟩ := DataW.trod_string Try.underlying9 t1
    obtain ⟨s2, e2, _, l2⟩ := DataW.trod_string Try.underlying9 t2
    obtain ⟨v3, e3, _, _⟩ := DataW.trod_int Try.underlying21 t3
    obtain ⟨v4, e4, _, _⟩ := DataW.trod_int Try.underlying2 t4
    simp at e0 e1 e2 e3 e4
    exact ⟨⟨s0, s1, s2, v3, v4⟩, e0, e1, e2, e3, e4, l0, l1, l2⟩

/-- A SLICE OF LOTS, OPENED. -/
theorem open_lots {H : Type} {enc : TypeId × Value → H} {W : World} {fuel : Nat} {a0 : Option Addr} {len cap : Nat} {x : DataW H × List MemPlace}
    (hf : DataW.trod enc Try.prog W 0 (fun _ => true) true fuel 22 [.slice a0 len cap] = some x) :
    ∃ L, LotsAt W W.heap.size a0 len L ∧ (∀ j, (L j).a.size ≤ maxLen ∧ (L j).s.size ≤ maxLen ∧ (L j).c.size ≤ maxLen) ∧ len ≤ maxLen ∧ (a0 = none → len = 0) := by
  rcases Go.Deep.open_slice Try.underlying22 hf with ⟨hcs, _⟩ | ⟨a, l, c, m, n, D, Pl, hcs, _, hl, hm, hmm, _, hx⟩
  · simp at hcs
    obtain ⟨rfl, rfl, rfl⟩ := hcs
    exact ⟨fun _ => zLot, fun h => absurd h (by omega), fun _ => (by decide : ByteArray.empty.size ≤ maxLen ∧ ByteArray.empty.size ≤ maxLen ∧ ByteArray.empty.size ≤ maxLen), Nat.zero_le _, fun _ => rfl⟩
  · simp at hcs
    obtain ⟨rfl, rfl, rfl⟩ := hcs
    simp only [if_true] at hmm
    subst hmm
    rw [cells25] at hx
    have key : ∀ i, ∃ y : LotV, (i < len → W.cell? (a.add (i * 5)) = some (.string y.a) ∧ W.cell? (a.add (i * 5 + 1)) = some (.string y.s) ∧ W.cell? (a.add (i * 5 + 2)) = some (.string y.c) ∧ W.cell? (a.add (i * 5 + 3)) = some (.int .i32 y.d) ∧ W.cell? (a.add (i * 5 + 4)) = some (.int .i64 y.n)) ∧
        y.a.size ≤ maxLen ∧ y.s.size ≤ maxLen ∧ y.c.size ≤ maxLen := by
      intro i
      by_cases hi : i < len
      · obtain ⟨cs', h1, h2⟩ := hx i (by omega)
        obtain ⟨_, hlen, hc⟩ := World.cells?_some h1
        match cs', hlen with
        | [u0, u1, u2, u3, u4], _ =>
          obtain ⟨y, rfl, rfl, rfl, rfl, rfl, l0, l1, l2⟩ := open_lot h2
          refine ⟨y, fun _ => ⟨?_, ?_, ?_, ?_, ?_⟩, l0, l1, l2⟩
          · simpa [Go.Deep.add_add] using hc 0 (by omega)
          · simpa [Go.Deep.add_add] using hc 1 (by omega)
          · simpa [Go.Deep.add_add] using hc 2 (by omega)
          · simpa [Go.Deep.add_add] using hc 3 (by omega)
          · simpa [Go.Deep.add_add] using hc 4 (by omega)
      · exact ⟨zLot, fun h => absurd h hi, by decide, by decide, by decide⟩
    obtain ⟨L, hL⟩ := Classical.skolem.1 key
    refine ⟨L, fun hp => ?_, fun j => (hL j).2, by omega, fun h => by cases h⟩
    obtain ⟨b, off, spot⟩ := a
    have h0 := ((hL 0).1 hp).1
    have hspot : spot = none := by simpa [Addr.add] using World.cell?_spot h0
    subst hspot
    refine ⟨b, off, rfl, by simpa [Addr.add] using World.block_lt_of_cell? W _ h0, fun j hj => ?_⟩
    have h := (hL j).1 hj
    simp only [add_plain] at h
    exact h
end Go.Proofs.Qxb6619464a

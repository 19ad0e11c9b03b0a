import Derived.Test.Qxb6623259aRing
namespace Go.Proofs.Qxb6623259a
open Go.ChangeShapes Go.WideShapes Go.RowKit

/-- the ring after the blocks fr+1 .. fr+k have been zeroed -/
def zr (R : Nat → Nat) (fr : Nat) : Nat → Nat → Nat
  | 0 => R
  | k + 1 => fun j => if j = (fr + k + 1) % 16385 then 0 else zr R fr k j

theorem zr_le (R : Nat → Nat) (fr : Nat) : ∀ k j, zr R fr k j = 0 ∨ zr R fr k j = R j
  | 0, j => .inr rfl
  | k + 1, j => by
    simp only [zr]
    split
    · exact .inl rfl
    · exact zr_le R fr k j

theorem zr_hit (R : Nat → Nat) (fr : Nat) : ∀ k b, fr < b → b ≤ fr + k → zr R fr k (b % 16385) = 0
  | 0, b, h1, h2 => by omega
  | k + 1, b, h1, h2 => by
    simp only [zr]
    split
    · rfl
    · rename_i hne
      exact zr_hit R fr k b h1 (by
        by_cases e : b = fr + k + 1
        · exact absurd (by rw [e]) hne
        · omega)

theorem zr_miss (R : Nat → Nat) (fr : Nat) : ∀ k b, b ≤ fr → fr + k < b + 16385 → zr R fr k (b % 16385) = R (b % 16385)
  | 0, _, _, _ => rfl
  | k + 1, b, h1, h2 => by
    simp only [zr]
    rw [if_neg (by omega)]
    exact zr_miss R fr k b h1 (by omega)

/-- WHAT advance LEAVES OF THE RING: the blocks behind the elder top up to the new one are 0, those before it that are still in reach are as they were. -/
structure Adv (R R' : Nat → Nat) (fr to : Nat) : Prop where
  new : ∀ b, fr < b → b ≤ to → to < b + 16385 → R' (b % 16385) = 0
  old : ∀ b, b ≤ fr → to < b + 16385 → R' (b % 16385) = R (b % 16385)

theorem win_top {w : World} {wb top len cap : Nat} {r : Option Addr} (h : w.rowIs wb 26 2 (winCells top r len cap)) (c : Nat) :
    (w.setCell ⟨wb, 0, none⟩ (.int .u64 (c : Int))).rowIs wb 26 2 (winCells c r len cap) := by
  refine (h.set 0 _).congr fun i hi => ?_
  unfold winCells
  by_cases e : i = 0
  · subst e; simp
  · simp [e]

theorem ring_zero {w : World} {rb cap : Nat} {R : Nat → Nat} (h : w.rowIs rb 24 cap (ringCells R)) (j : Nat) :
    (w.setCell ⟨rb, j, none⟩ (.int .u64 0)).rowIs rb 24 cap (ringCells (fun i => if i = j then 0 else R i)) := by
  refine (h.set j _).congr fun i hi => ?_
  unfold ringCells
  by_cases e : i = j
  · subst e; simp
  · simp [e]

/-- one block zeroed -/
theorem win_zero {w : World} {B : Nat → Prop} {wb top len cap : Nat} {r : Option Addr} {R : Nat → Nat} (h : Win w B wb top r len cap R) {rb : Nat} (hr : r = some ⟨rb, 0, none⟩) (hc : 0 < cap) (j : Nat) :
    Win (w.setCell ⟨rb, j, none⟩ (.int .u64 0)) B wb top r len cap (fun i => if i = j then 0 else R i) := by
  obtain ⟨rb', e, hb, hne, hrow⟩ := h.ring.row hc
  rw [hr] at e
  cases e
  refine ⟨h.base, h.win.setOther (by simpa using hne.symm) _, ⟨h.ring.le, h.ring.capLe, h.ring.nil, fun _ => ⟨rb, hr, hb, hne, ring_zero hrow j⟩, fun i hi => ?_, fun i => ?_⟩⟩
  · split
    · rfl
    · exact h.ring.rest i hi
  · split
    · omega
    · exact h.ring.small i

/-- the top set anew -/
theorem win_newtop {w : World} {B : Nat → Prop} {wb top len cap : Nat} {r : Option Addr} {R : Nat → Nat} (h : Win w B wb top r len cap R) (c : Nat) : Win (w.setCell ⟨wb, 0, none⟩ (.int .u64 (c : Int))) B wb c r len cap R := by
  refine ⟨h.base, win_top h.win c, ⟨h.ring.le, h.ring.capLe, h.ring.nil, fun h0 => ?_, h.ring.rest, h.ring.small⟩⟩
  obtain ⟨rb, e, hb, hne, hrow⟩ := h.ring.row h0
  exact ⟨rb, e, hb, hne, hrow.setOther (by simpa using hne) _⟩

set_option maxHeartbeats 1000000 in
theorem advance_loop (B : Nat → Prop) (wb top len cap c T F : Nat) (r : Option Addr) (R : Nat → Nat) (w : World) (h : Win w B wb top r len cap R) (hT : T = top / 64) (hF : F = c / 64) (fT : (top : Int) / 64 = (T : Int)) (fF : (c : Int) / 64 = (F : Int))
    (hc : (c : Int) < 18446744073709551616) (hFT : (T : Int) ≤ F) (hle : len ≤ nOf F) (hB : ∀ k, B k → k < w.heap.size) (hbig : (F : Int) < T + 16385) :
    Calls Try.prog 7 #[.pointer (some ⟨wb, 0, none⟩), .int .u64 (c : Int)] w fun e w' => e = .returned (.tuple #[]) ∧ ∃ r' cap' R', Win w' B wb c r' (nOf F) cap' R' ∧ Adv R R' T F ∧ Keeps B w w' := by
  have c0 : w.cell? ⟨wb, 0, none⟩ = some (.int .u64 (top : Int)) := by
    have := h.win.cell (i := 0) (by omega)
    simpa [winCells] using this
  have HG := hide (grow B wb top len cap F r R w (by omega) h hle hB)
  have d1 : decide ((16385 : Int) ≤ (F : Int) - (T : Int)) = false := by simp; omega
  have hF2 : (F : Int) < 288230376151711744 := by omega
  clear h hT hF hle
  go_enter Try.func7, Try.ntmps7
  go_wp2_with fail
  refine (unhide HG).mono ?_
  rintro e w1 ⟨rfl, r1, cap1, h1, hb1⟩
  have W1 := hide h1
  have B1 := hide hb1
  have hB1 : ∀ k, B k → k < w1.heap.size := fun k h => Nat.lt_of_lt_of_le (hB k h) hb1.size
  obtain ⟨rb, rfl, hrb, hne, hrow⟩ := h1.ring.row (Nat.lt_of_lt_of_le (by unfold nOf; split <;> omega) h1.ring.le)
  clear HG h1 hb1 hrow c0
  go_wp2_with fail
  have hN : Hid (∀ b, b ≤ F → b % 16385 < nOf F) := fun b hb => by
    unfold nOf
    split
    · rw [Nat.mod_eq_of_lt (by omega)]; omega
    · exact Nat.mod_lt _ (by omega)
  generalize hNF : nOf F = N at *
  have HNF := hide hNF
  clear hNF
  go_loopw [6] (fun i wr => ∃ k : Nat, T + k ≤ F ∧ i = .int .u64 ((T : Int) + (k : Int) + 1) ∧ Win wr B wb top (some ⟨rb, 0, none⟩) N cap1 (zr R T k) ∧ Keeps B w1 wr) (fun i _ => F + 1 - (intOf i).toNat)
  case atStart => exact ⟨0, by omega, by simp, unhide W1, Keeps.refl _ _⟩
  case round =>
    clear W1
    obtain ⟨k, hk, rfl, hw, hbel⟩ := hrel
    have W := hide hw
    have BE := hide hbel
    have k1 : wr.cell? ⟨wb, 1, none⟩ = some (.slice (some ⟨rb, 0, none⟩) N cap1) := by
      have := hw.win.cell (i := 1) (by omega)
      simpa [winCells] using this
    have k0 := hw.win.cell (i := 0) (by omega)
    have f0 := hw.win.frozen 0
    have hcp := hw.ring.le
    clear hw hbel
    by_cases hlt : T + k < F
    · obtain ⟨m, hm⟩ : ∃ m : Nat, m = (T + k + 1) % 16385 := ⟨_, rfl⟩
      have fm : ((T : Int) + (k : Int) + 1) % 16385 = (m : Int) := by omega
      have mN : m < N := by rw [hm]; exact unhide hN _ (by omega)
      obtain ⟨rb', e, _, _, hrow⟩ := (unhide W).ring.row (by omega)
      cases e
      have r1 := hrow.cell (i := m) (by omega)
      have r2 := hrow.frozen m
      have W2 := hide (win_zero (unhide W) rfl (by omega) m)
      have B2 := hide ((unhide BE).setCell (p := ⟨rb, m, none⟩) hrb (.int .u64 0))
      have HM := hide hm
      have j1 : (0 : Int) ≤ (m : Int) := by omega
      have j2 : (m : Int) < (N : Int) := by omega
      have j3 : (T : Int) + (k : Int) + 1 ≤ (F : Int) := by omega
      clear hrow W BE hm hcp
      go_wp2
      go_roundw
      case rel =>
        have ez : zr R T (k + 1) = fun i => if i = m then 0 else zr R T k i := by rw [unhide HM]; rfl
        exact ⟨k + 1, by omega, by go_num, by rw [ez]; exact unhide W2, unhide B2⟩
      case measure => simp [intOf]; omega
    · have hF' : F = T + k := by omega
      have HF := hide hF'
      have j3 : ¬ (T : Int) + (k : Int) + 1 ≤ (F : Int) := by omega
      have W2 := hide (win_newtop (unhide W) c)
      have B2 := hide ((unhide BE).setCell (p := ⟨wb, 0, none⟩) (unhide W).base (.int .u64 (c : Int)))
      clear hF' W BE hcp hk hlt
      go_wp2
      go_end0
      refine ⟨rfl, some ⟨rb, 0, none⟩, cap1, zr R T k, by rw [unhide HNF]; exact unhide W2, ⟨fun b h1 h2 _ => zr_hit R T k b h1 (by have := unhide HF; omega), fun b h1 h2 => zr_miss R T k b h1 (by have := unhide HF; omega)⟩, (unhide B1).trans (unhide B2)⟩

theorem zeroU64 (w : World) : (zeroValue 24).run Try.prog w = .ok (.int .u64 0) w := by kernel_rfl

theorem rowIs_cleared {w : World} {rb cap : Nat} {R : Nat → Nat} (h : w.rowIs rb 24 cap (ringCells R)) (N : Nat) (h0 : ∀ j, N ≤ j → R j = 0) :
    (w.setCells rb 0 (List.replicate N (.int .u64 0))).rowIs rb 24 cap (ringCells (fun _ => 0)) ∧ ∀ k, k ≠ rb → (w.setCells rb 0 (List.replicate N (.int .u64 0))).heap[k]? = w.heap[k]? := by
  have key : ∀ (n o : Nat) (w : World) (f : Nat → Value), w.rowIs rb 24 cap f → (w.setCells rb o (List.replicate n (.int .u64 0))).rowIs rb 24 cap (fun j => if o ≤ j ∧ j < o + n then .int .u64 0 else f j) ∧ ∀ k, k ≠ rb → (w.setCells rb o (List.replicate n (.int .u64 0))).heap[k]? = w.heap[k]? := by
    intro n
    induction n with
    | zero => intro o w f h; exact ⟨h.congr fun i _ => by rw [if_neg (by omega)], fun _ _ => rfl⟩
    | succ n ih =>
      intro o w f h
      have h1 := ih (o + 1) (w.setCell ⟨rb, o, none⟩ (.int .u64 0)) _ (h.set o (.int .u64 0))
      refine ⟨h1.1.congr fun i _ => ?_, fun k hk => (h1.2 k hk).trans (Below.heap_setCell w _ _ k (by simpa using hk))⟩
      by_cases a : o + 1 ≤ i ∧ i < o + 1 + n
      · rw [if_pos a, if_pos (by omega)]
      · rw [if_neg a]
        by_cases e : i = o
        · rw [if_pos e, if_pos (by omega)]
        · rw [if_neg e, if_neg (by omega)]
  obtain ⟨k1, k2⟩ := key N 0 w _ h
  refine ⟨k1.congr fun i _ => ?_, k2⟩
  by_cases a : i < N
  · rw [if_pos ⟨Nat.zero_le _, by omega⟩]; rfl
  · rw [if_neg (by omega)]
    simp [ringCells, h0 i (by omega)]

/-- clear(blocks) -/
theorem win_clear {w : World} {B : Nat → Prop} {wb top N cap : Nat} {rb : Nat} {R : Nat → Nat} (h : Win w B wb top (some ⟨rb, 0, none⟩) N cap R) (hN : 0 < N) :
    ∃ w2, (∀ ty, (Builtin.clear_ #[22] ty #[.slice (some ⟨rb, 0, none⟩) N cap]).run Try.prog w = .ok (.tuple #[]) w2) ∧ Win w2 B wb top (some ⟨rb, 0, none⟩) N cap (fun _ => 0) ∧ Keeps B w w2 := by
  have hle := h.ring.le
  obtain ⟨rb', e, hb, hne, hrow⟩ := h.ring.row (by omega)
  cases e
  have hrun := fun ty => Lib.run_clear_slice (P := Try.prog) w 22 24 ty (.int .u64 0) Try.underlying22 zeroU64 rfl rfl rb 0 N cap hN (fun j hj => by rw [Nat.zero_add, hrow.cell (by omega)]; rfl) (fun j _ => by rw [Nat.zero_add]; exact hrow.frozen j)
  obtain ⟨k1, k2⟩ := rowIs_cleared hrow N h.ring.rest
  have hbel : Keeps B w (w.setCells rb 0 (List.replicate N (.int .u64 0))) := by
    have key : ∀ (vs : List Value) (o : Nat) (x : World), Keeps B w x → Keeps B w (x.setCells rb o vs) := by
      intro vs
      induction vs with
      | nil => intro o x hx; exact hx
      | cons v vs ih => intro o x hx; exact ih (o + 1) _ (hx.setCell (p := ⟨rb, o, none⟩) hb v)
    exact key _ _ _ (Keeps.refl _ _)
  exact ⟨_, hrun, ⟨h.base, h.win.of_block (k2 wb hne.symm), ⟨hle, h.ring.capLe, h.ring.nil, fun _ => ⟨rb, rfl, hb, hne, k1⟩, fun _ _ => rfl, fun _ => by omega⟩⟩, hbel⟩

set_option maxHeartbeats 1000000 in
theorem advance_clear (B : Nat → Prop) (wb top len cap c T F : Nat) (r : Option Addr) (R : Nat → Nat) (w : World) (h : Win w B wb top r len cap R) (fT : (top : Int) / 64 = (T : Int)) (fF : (c : Int) / 64 = (F : Int))
    (hc : (c : Int) < 18446744073709551616) (_hFT : (T : Int) ≤ F) (hle : len ≤ nOf F) (hB : ∀ k, B k → k < w.heap.size) (hbig : (T : Int) + 16385 ≤ F) :
    Calls Try.prog 7 #[.pointer (some ⟨wb, 0, none⟩), .int .u64 (c : Int)] w fun e w' => e = .returned (.tuple #[]) ∧ ∃ r' cap' R', Win w' B wb c r' (nOf F) cap' R' ∧ Adv R R' T F ∧ Keeps B w w' := by
  have c0 : w.cell? ⟨wb, 0, none⟩ = some (.int .u64 (top : Int)) := by
    have := h.win.cell (i := 0) (by omega)
    simpa [winCells] using this
  have HG := hide (grow B wb top len cap F r R w (by omega) h hle hB)
  have d1 : decide ((16385 : Int) ≤ (F : Int) - (T : Int)) = true := by simp; omega
  have hF2 : (F : Int) < 288230376151711744 := by omega
  clear h hle
  go_enter Try.func7, Try.ntmps7
  go_wp2_with fail
  refine (unhide HG).mono ?_
  rintro e w1 ⟨rfl, r1, cap1, h1, hb1⟩
  have hNp : 0 < nOf F := by unfold nOf; split <;> omega
  have B1 := hide hb1
  obtain ⟨rb, rfl, hrb, hne, hrow⟩ := h1.ring.row (Nat.lt_of_lt_of_le hNp h1.ring.le)
  have k1 : w1.cell? ⟨wb, 1, none⟩ = some (.slice (some ⟨rb, 0, none⟩) (nOf F) cap1) := by
    have := h1.win.cell (i := 1) (by omega)
    simpa [winCells] using this
  obtain ⟨w2, hrun, hw2, hb2⟩ := win_clear h1 hNp
  have k0 := hw2.win.cell (i := 0) (by omega)
  have f0 := hw2.win.frozen 0
  have W3 := hide (win_newtop hw2 c)
  have B3 := hide ((hb1.trans hb2).setCell (p := ⟨wb, 0, none⟩) h1.base (.int .u64 (c : Int)))
  clear HG h1 hb1 hrow c0 hw2 hb2 B1
  generalize hNF : nOf F = N at *
  have HNF := hide hNF
  clear hNF
  go_wp2
  go_end0
  refine ⟨rfl, some ⟨rb, 0, none⟩, cap1, (fun _ => 0), by rw [unhide HNF]; exact unhide W3, ⟨fun _ _ _ _ => rfl, fun b h1 h2 => by omega⟩, unhide B3⟩

/-- THE CONTRACT OF advance. -/
theorem advance (B : Nat → Prop) (wb top len cap c : Nat) (r : Option Addr) (R : Nat → Nat) (w : World) (hc : c < 18446744073709551616) (h : Win w B wb top r len cap R) (htc : top ≤ c) (hle : len ≤ nOf (c / 64)) (hB : ∀ k, B k → k < w.heap.size) :
    Calls Try.prog 7 #[.pointer (some ⟨wb, 0, none⟩), .int .u64 (c : Int)] w fun e w' => e = .returned (.tuple #[]) ∧ ∃ r' cap' R', Win w' B wb c r' (nOf (c / 64)) cap' R' ∧ Adv R R' (top / 64) (c / 64) ∧ Keeps B w w' := by
  by_cases hbig : top / 64 + 16385 ≤ c / 64
  · exact advance_clear B wb top len cap c (top / 64) (c / 64) r R w h (by omega) (by omega) (by omega) (by omega) hle hB (by omega)
  · exact advance_loop B wb top len cap c (top / 64) (c / 64) r R w h rfl rfl (by omega) (by omega) (by omega) (by omega) hle hB (by omega)
end Go.Proofs.Qxb6623259a

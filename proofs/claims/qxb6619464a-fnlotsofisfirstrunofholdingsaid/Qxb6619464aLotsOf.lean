import Derived.Test.Qxb6619464aLots
namespace Go.Proofs.Qxb6619464a
open Go.ChangeShapes Go.WideShapes Go.RowKit

theorem ofHolding' (B o : Nat) (y : LotV) (ha hs hc : ByteArray) (w : World) (hB : B < w.heap.size) (h1 : w.cell? ⟨B, o + 1, none⟩ = some (.string y.s)) (h2 : w.cell? ⟨B, o + 2, none⟩ = some (.string y.c)) :
    Calls Try.prog 22 #[.pointer (some ⟨B, o, none⟩), .agg #[.string ha, .string hs, .string hc]] w fun e w' => e = .returned (.bool (ofB y hs hc)) ∧ Below w.heap.size w w' :=
  ofHolding B o y.s y.c ha hs hc w hB h1 h2

theorem Try.size27 (w : World) : (sizeOf (Try.prog.elem 27)).run Try.prog w = .ok 5 w := by kernel_rfl
theorem Try.und27 : Try.prog.underlying 27 = some (.slice (Try.prog.elem 27)) := by kernel_rfl
theorem slice27_in (B off l h n c : Nat) (hl : l ≤ h) (hh : h ≤ c) (hc : l < c) (w : World) :
    (Instr.slice 27 (.slice (some ⟨B, off, none⟩) n c) (some (.int .i64 l)) (some (.int .i64 h)) none).run Try.prog w = .ok (.slice (some ⟨B, off + l * 5, none⟩) (h - l) (c - l)) w := by
  rw [run_slice_lh w 27 _ _ _ Try.und27 .i64 .i64 l h (by omega) (by omega) (by omega), Try.size27]
  have e : ¬ c = l := by omega
  simp [Result.andThen, sliced, Addr.add, e]

/-- THE FIRST RUN OF THE HOLDING's LOTS: from st up to en. -/
structure Run (L : Nat → LotV) (hs hc : ByteArray) (n st en : Nat) : Prop where
  lt : st < en
  le : en ≤ n
  before : ∀ j, j < st → ofB (L j) hs hc = false
  within : ∀ j, st ≤ j → j < en → ofB (L j) hs hc = true
  behind : en < n → ofB (L en) hs hc = false

theorem Run.unique {L : Nat → LotV} {hs hc : ByteArray} {n s1 e1 s2 e2 : Nat} (a : Run L hs hc n s1 e1) (b : Run L hs hc n s2 e2) : s1 = s2 ∧ e1 = e2 := by
  have h1 : s1 = s2 := by
    rcases Nat.lt_trichotomy s1 s2 with h | h | h
    · have x := a.within s1 (Nat.le_refl _) a.lt; rw [b.before s1 h] at x; cases x
    · exact h
    · have x := b.within s2 (Nat.le_refl _) b.lt; rw [a.before s2 h] at x; cases x
  subst h1
  refine ⟨rfl, ?_⟩
  rcases Nat.lt_trichotomy e1 e2 with h | h | h
  · have x := b.within e1 (Nat.le_of_lt a.lt) h; rw [a.behind (Nat.lt_of_lt_of_le h b.le)] at x; cases x
  · exact h
  · have x := a.within e2 (Nat.le_of_lt b.lt) h; rw [b.behind (Nat.lt_of_lt_of_le h a.le)] at x; cases x

/-- WHAT lotsOf ANSWERS. -/
def LotsAns (L : Nat → LotV) (hs hc : ByteArray) (n : Nat) (r : Option Addr) (v : Value) : Prop :=
  (v = .slice none 0 0 ∧ ∀ j, j < n → ofB (L j) hs hc = false) ∨
  ∃ st en b off, Run L hs hc n st en ∧ r = some ⟨b, off, none⟩ ∧ v = .slice (some ⟨b, off + st * 5, none⟩) (en - st) (n - st)

/-- .. and what became of the world. -/
def LotsPost (L : Nat → LotV) (hs hc : ByteArray) (n : Nat) (r : Option Addr) (w : World) (e : Ending) (w' : World) : Prop :=
  ∃ v, e = .returned v ∧ LotsAns L hs hc n r v ∧ Below w.heap.size w w'

set_option maxHeartbeats 2000000 in
theorem lotsOf_walk (eb n : Nat) (r : Option Addr) (ha hs hc : ByteArray) (L : Nat → LotV) (w : World) (hn : n ≤ 1048576) (heb : eb < w.heap.size)
    (hE : w.cell? ⟨eb, 1, none⟩ = some (.slice r n n)) (hA : LotsAt w w.heap.size r n L) :
    Calls Try.prog 19 #[.pointer (some ⟨eb, 0, none⟩), .agg #[.string ha, .string hs, .string hc]] w (LotsPost L hs hc n r w) := by
  have b0 : Below w.heap.size w (w.alloc (.cells #[.string ha, .string hs, .string hc] 35)) := (Below.refl _ _).alloc (Nat.le_refl _) _
  have c0 : (w.alloc (.cells #[.string ha, .string hs, .string hc] 35)).cell? ⟨w.heap.size, 0, none⟩ = some (.string ha) := by rw [World.cell?_alloc_at _ _ _ _ rfl]; rfl
  have c1 : (w.alloc (.cells #[.string ha, .string hs, .string hc] 35)).cell? ⟨w.heap.size, 1, none⟩ = some (.string hs) := by rw [World.cell?_alloc_at _ _ _ _ rfl]; rfl
  have c2 : (w.alloc (.cells #[.string ha, .string hs, .string hc] 35)).cell? ⟨w.heap.size, 2, none⟩ = some (.string hc) := by rw [World.cell?_alloc_at _ _ _ _ rfl]; rfl
  have z0 : (w.alloc (.cells #[.string ha, .string hs, .string hc] 35)).heap.size = w.heap.size + 1 := by simp
  have HE := hide ((b0.cell (p := ⟨eb, 1, none⟩) heb).trans hE)
  have HA := hide (hA.later b0 (Nat.le_refl _))
  have B0 := hide b0
  have C0 := hide c0
  have C1 := hide c1
  have C2 := hide c2
  have Z0 := hide z0
  clear b0 c0 c1 c2 z0 hE hA
  go_enter Try.func19, Try.ntmps19
  go_wp2
  generalize w.alloc (.cells #[.string ha, .string hs, .string hc] 35) = w0 at *
  go_loopw [5] (fun i wr => ∃ k : Nat, k ≤ n ∧ i = .int .i64 k ∧ (∀ j, j < k → ofB (L j) hs hc = false) ∧ Below w0.heap.size w0 wr) (fun i _ => n - (intOf i).toNat)
  case atStart => exact ⟨0, Nat.zero_le _, rfl, fun j hj => absurd hj (by omega), Below.refl _ _⟩
  case round =>
    obtain ⟨k, hk, rfl, hno, hbel⟩ := hrel
    have z0 := unhide Z0
    have e0 := (hbel.cell (p := ⟨eb, 1, none⟩) (show eb < _ by omega)).trans (unhide HE)
    have p0 := (hbel.cell (p := ⟨w.heap.size, 0, none⟩) (show w.heap.size < _ by omega)).trans (unhide C0)
    have p1 := (hbel.cell (p := ⟨w.heap.size, 1, none⟩) (show w.heap.size < _ by omega)).trans (unhide C1)
    have p2 := (hbel.cell (p := ⟨w.heap.size, 2, none⟩) (show w.heap.size < _ by omega)).trans (unhide C2)
    have NO := hide hno
    have BEL := hide hbel
    have zr := hbel.size
    clear hno hbel z0
    by_cases hlt : k < n
    · have i1 : (0 : Int) ≤ (k : Int) := by omega
      have i2 : (k : Int) < (n : Int) := by omega
      have d1 : decide ((k : Int) < (n : Int)) = true := by simp; omega
      obtain ⟨b, off, rfl, hb, hc'⟩ := unhide HA (by omega)
      have hb' : b < wr.heap.size := by have := unhide Z0; omega
      obtain ⟨_, h1, h2, _, _⟩ := hc' k hlt
      have g1 := ((unhide BEL).cell (p := ⟨b, off + k * 5 + 1, none⟩) (show b < _ by have := unhide Z0; omega)).trans h1
      have g2 := ((unhide BEL).cell (p := ⟨b, off + k * 5 + 2, none⟩) (show b < _ by have := unhide Z0; omega)).trans h2
      have HC' := hide hc'
      clear h1 h2 hc'
      cases hm : ofB (L k) hs hc
      · go_wp2
        go_region_held3 (fun w' => w'.cell? ⟨eb, 1, none⟩ = some (.slice (some ⟨b, off, none⟩) n n) ∧ w'.cell? ⟨w.heap.size, 0, none⟩ = some (.string ha) ∧ w'.cell? ⟨w.heap.size, 1, none⟩ = some (.string hs) ∧ w'.cell? ⟨w.heap.size, 2, none⟩ = some (.string hc)) (go_keep)
          (first | (go_at_call 22; refine (ofHolding' b (off + k * 5) (L k) ha hs hc _ ?_ ?_ ?_).mono ?_; (simpa using hb'); (simpa using g1); (simpa using g2); rintro e w1 ⟨rfl, hb1⟩; have q0 := cell_later hb1 (by exact e0); have q1 := cell_later hb1 (by exact p0); have q2 := cell_later hb1 (by exact p1); have q3 := cell_later hb1 (by exact p2)))
        have BEL1 : Hid (Below w0.heap.size w0 w1) := (unhide BEL).drew.trans (hb1.mono (by simpa using zr))
        clear hb1 q0 q1 q2 q3 e0 p0 p1 p2 g1 g2
        go_wp2
        go_roundw
        case rel => exact ⟨k + 1, by omega, by go_num, fun j hj => by
          by_cases e : j = k
          · rw [e]; exact hm
          · exact unhide NO j (by omega), unhide BEL1⟩
        case measure => simp [intOf]; omega
      · go_wp2
        go_region_held3 (fun w' => w'.cell? ⟨eb, 1, none⟩ = some (.slice (some ⟨b, off, none⟩) n n) ∧ w'.cell? ⟨w.heap.size, 0, none⟩ = some (.string ha) ∧ w'.cell? ⟨w.heap.size, 1, none⟩ = some (.string hs) ∧ w'.cell? ⟨w.heap.size, 2, none⟩ = some (.string hc)) (go_keep)
          (first | (go_at_call 22; refine (ofHolding' b (off + k * 5) (L k) ha hs hc _ ?_ ?_ ?_).mono ?_; (simpa using hb'); (simpa using g1); (simpa using g2); rintro e w1 ⟨rfl, hb1⟩; have q0 := cell_later hb1 (by exact e0); have q1 := cell_later hb1 (by exact p0); have q2 := cell_later hb1 (by exact p1); have q3 := cell_later hb1 (by exact p2)))
        have BEL1 : Hid (Below w0.heap.size w0 w1) := (unhide BEL).drew.trans (hb1.mono (by simpa using zr))
        clear hb1 q0 q1 q2 q3 e0 p0 p1 p2 g1 g2 BEL zr hb' i1 i2
        go_wp2
        have M := hide hm
        clear hm
        go_loopw [6] (fun i wr => ∃ m : Nat, k ≤ m ∧ m ≤ n ∧ i = .int .i64 m ∧ (∀ j, k ≤ j → j < m → ofB (L j) hs hc = true) ∧ Below w0.heap.size w0 wr) (fun i _ => n - (intOf i).toNat)
        case atStart => exact ⟨k, Nat.le_refl _, by omega, rfl, fun j h1 h2 => absurd h2 (by omega), unhide BEL1⟩
        case round =>
          clear BEL1
          obtain ⟨m, hkm, hmn, rfl, hyes, hbel⟩ := hrel
          have z0 := unhide Z0
          have e0 := (hbel.cell (p := ⟨eb, 1, none⟩) (show eb < _ by omega)).trans (unhide HE)
          have p0 := (hbel.cell (p := ⟨w.heap.size, 0, none⟩) (show w.heap.size < _ by omega)).trans (unhide C0)
          have p1 := (hbel.cell (p := ⟨w.heap.size, 1, none⟩) (show w.heap.size < _ by omega)).trans (unhide C1)
          have p2 := (hbel.cell (p := ⟨w.heap.size, 2, none⟩) (show w.heap.size < _ by omega)).trans (unhide C2)
          have YES := hide hyes
          have BEL := hide hbel
          have zr := hbel.size
          clear hyes hbel z0
          have s1 := slice27_in b off k m n n hkm hmn hlt
          by_cases hlt2 : m < n
          · have i1 : (0 : Int) ≤ (m : Int) := by omega
            have i2 : (m : Int) < (n : Int) := by omega
            have d2 : decide ((m : Int) < (n : Int)) = true := by simp; omega
            have hb2 : b < wr.heap.size := by have := unhide Z0; omega
            obtain ⟨_, h1, h2, _, _⟩ := unhide HC' m hlt2
            have g1 := ((unhide BEL).cell (p := ⟨b, off + m * 5 + 1, none⟩) (show b < _ by have := unhide Z0; omega)).trans h1
            have g2 := ((unhide BEL).cell (p := ⟨b, off + m * 5 + 2, none⟩) (show b < _ by have := unhide Z0; omega)).trans h2
            clear h1 h2
            cases hm2 : ofB (L m) hs hc
            · have hne : ¬ k = m := fun e => by
                have := unhide M
                rw [e, hm2] at this
                cases this
              have hne2 : ((k : Int) == (m : Int)) = false := by rw [beq_eq_false_iff_ne]; omega
              go_wp2
              go_region_held3 (fun w' => w'.cell? ⟨eb, 1, none⟩ = some (.slice (some ⟨b, off, none⟩) n n) ∧ w'.cell? ⟨w.heap.size, 0, none⟩ = some (.string ha) ∧ w'.cell? ⟨w.heap.size, 1, none⟩ = some (.string hs) ∧ w'.cell? ⟨w.heap.size, 2, none⟩ = some (.string hc)) (go_keep)
          (first | (go_at_call 22; refine (ofHolding' b (off + m * 5) (L m) ha hs hc _ ?_ ?_ ?_).mono ?_; (simpa using hb2); (simpa using g1); (simpa using g2); rintro e w1 ⟨rfl, hb1⟩; have q0 := cell_later hb1 (by exact e0); have q1 := cell_later hb1 (by exact p0); have q2 := cell_later hb1 (by exact p1); have q3 := cell_later hb1 (by exact p2)))
              have BEL1 : Hid (Below w0.heap.size w0 w1) := (unhide BEL).drew.trans (hb1.mono (by simpa using zr))
              clear hb1 q1 q2 q3 e0 p0 p1 p2 g1 g2 BEL zr hb2 i1 i2
              go_wp2
              go_ret
              exact ⟨_, rfl, .inr ⟨k, m, b, off, ⟨by omega, by omega, unhide NO, unhide YES, fun _ => hm2⟩, rfl, rfl⟩, (unhide B0).trans ((unhide BEL1).mono (by have := unhide Z0; omega))⟩
            · go_wp2
              go_region_held3 (fun w' => w'.cell? ⟨eb, 1, none⟩ = some (.slice (some ⟨b, off, none⟩) n n) ∧ w'.cell? ⟨w.heap.size, 0, none⟩ = some (.string ha) ∧ w'.cell? ⟨w.heap.size, 1, none⟩ = some (.string hs) ∧ w'.cell? ⟨w.heap.size, 2, none⟩ = some (.string hc)) (go_keep)
          (first | (go_at_call 22; refine (ofHolding' b (off + m * 5) (L m) ha hs hc _ ?_ ?_ ?_).mono ?_; (simpa using hb2); (simpa using g1); (simpa using g2); rintro e w1 ⟨rfl, hb1⟩; have q0 := cell_later hb1 (by exact e0); have q1 := cell_later hb1 (by exact p0); have q2 := cell_later hb1 (by exact p1); have q3 := cell_later hb1 (by exact p2)))
              have BEL1 : Hid (Below w0.heap.size w0 w1) := (unhide BEL).drew.trans (hb1.mono (by simpa using zr))
              clear hb1 q0 q1 q2 q3 e0 p0 p1 p2 g1 g2 BEL zr hb2 i1 i2 s1
              go_wp2
              go_roundw
              case rel => exact ⟨m + 1, by omega, by omega, by go_num, fun j h1 h2 => by
                by_cases e : j = m
                · rw [e]; exact hm2
                · exact unhide YES j h1 (by omega), unhide BEL1⟩
              case measure => simp [intOf]; omega
          · obtain rfl : m = n := by omega
            have d2 : decide ((m : Int) < (m : Int)) = false := by simp
            have hne2 : ((k : Int) == (m : Int)) = false := by rw [beq_eq_false_iff_ne]; omega
            go_wp2
            go_quiet (fail)
            go_wp2
            go_ret
            exact ⟨_, rfl, .inr ⟨k, m, b, off, ⟨by omega, by omega, unhide NO, unhide YES, fun h => absurd h (by omega)⟩, rfl, rfl⟩, (unhide B0).trans ((below_drewN (unhide BEL) _).mono (by have := unhide Z0; omega))⟩
    · obtain rfl : k = n := by omega
      have d1 : decide ((k : Int) < (k : Int)) = false := by simp
      go_wp2
      go_quiet (fail)
      go_wp2
      have e1 : (wr.drewN nq).cell? ⟨eb, 1, none⟩ = some (.slice r k k) := e0
      have BEL1 : Hid (Below w0.heap.size w0 (wr.drewN nq)) := below_drewN (unhide BEL) _
      clear e0 p0 p1 p2 BEL zr
      generalize wr.drewN nq = w1 at *
      refine wp_loop_rounds 1 ?_
      rw [rounds_succ]
      go_wp2
      go_quiet (fail)
      go_wp2
      go_ret
      exact ⟨_, rfl, .inl ⟨rfl, unhide NO⟩, (unhide B0).trans ((below_drewN (unhide BEL1) _).mono (by have := unhide Z0; omega))⟩

/-- ZZLotsOf hands on to lotsOf. -/
theorem zzLotsOf (eb n : Nat) (r : Option Addr) (ha hs hc : ByteArray) (L : Nat → LotV) (w : World) (hn : n ≤ 1048576) (heb : eb < w.heap.size)
    (hE : w.cell? ⟨eb, 1, none⟩ = some (.slice r n n)) (hA : LotsAt w w.heap.size r n L) :
    Calls Try.prog 10 #[.pointer (some ⟨eb, 0, none⟩), .agg #[.string ha, .string hs, .string hc]] w (LotsPost L hs hc n r w) := by
  have b0 : Below w.heap.size w (w.alloc (.cells #[.string ha, .string hs, .string hc] 35)) := (Below.refl _ _).alloc (Nat.le_refl _) _
  have H := hide (lotsOf_walk eb n r ha hs hc L (w.alloc (.cells #[.string ha, .string hs, .string hc] 35)) hn (by simp; omega) ((b0.cell (p := ⟨eb, 1, none⟩) heb).trans hE) (hA.later b0 (by simp)))
  have B0 := hide b0
  clear b0 hE hA
  go_enter Try.func10, Try.ntmps10
  go_wp2_with fail
  refine (unhide H).mono ?_
  rintro e w' ⟨v, rfl, hv, hb⟩
  have HV := hide hv
  have HB := hide hb
  clear H hv hb
  go_wp2
  go_ret
  exact ⟨v, rfl, unhide HV, (unhide B0).trans ((unhide HB).mono (by simp))⟩
end Go.Proofs.Qxb6619464a

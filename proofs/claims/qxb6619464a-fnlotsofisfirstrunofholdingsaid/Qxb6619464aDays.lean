import Derived.Test.Qxb6619464aRows
import Derived.WalkKit
import Derived.Deep.QuietTactic
import Derived.BigQuiet
import Derived.WalkSpells
import Derived.WalkLawsBesides
namespace Go.Proofs.Qxb6619464a
open Go.ChangeShapes Go.WideShapes Go.RowKit

theorem hide {p : Prop} (h : p) : Hid p := h
theorem unhide {p : Prop} (h : Hid p) : p := h

/-- the first n of f strictly increase -/
def incB (f : Nat → Int) : Nat → Bool
  | 0 => true
  | 1 => true
  | n + 2 => incB f (n + 1) && decide (f n < f (n + 1))

/-- daysInOrder, of n days f, ended by the day L (or by none) -/
def dioB (f : Nat → Int) (n : Nat) (L : Option Int) : Bool :=
  match n with
  | 0 => true
  | m + 1 => incB f (m + 1) && (L == some (f m))

theorem incB_false {f : Nat → Int} : ∀ {n m : Nat}, incB f m = false → m ≤ n → incB f n = false := by
  intro n
  induction n with
  | zero => intro m h hm; obtain rfl : m = 0 := by omega
            exact h
  | succ n ih =>
    intro m h hm
    by_cases e : m = n + 1
    · subst e; exact h
    · have := ih h (by omega)
      match n, this with
      | 0, this => simp [incB] at this
      | k + 1, this => simp [incB, this]

set_option maxHeartbeats 400000 in
theorem days_some (b off n c pb po : Nat) (f : Nat → Int) (L : Int) (w : World) (hn : n ≤ 1048577)
    (hc : ∀ j, j < n → w.cell? ⟨b, off + j, none⟩ = some (.int .i32 (f j))) (hL : w.cell? ⟨pb, po, none⟩ = some (.int .i32 L)) :
    Calls Try.prog 21 #[.slice (some ⟨b, off, none⟩) n c, .pointer (some ⟨pb, po, none⟩)] w fun e w' => e = .returned (.bool (dioB f n (some L))) ∧ ∃ q, w' = w.drewN q := by
  match n, hn, hc with
  | 0, _, _ =>
    go_enter Try.func21, Try.ntmps21
    go_wp2
    go_ret
    exact ⟨rfl, 0, rfl⟩
  | m + 1, hn, hc =>
    have h0 : ((m : Int) + 1 == 0) = false := by rw [beq_eq_false_iff_ne]; omega
    go_enter Try.func21, Try.ntmps21
    go_wp2
    go_loopw [5] (fun i wr => ∃ k : Nat, k ≤ m ∧ i = .int .i64 (k + 1) ∧ incB f (k + 1) = true ∧ ∃ q, wr = w.drewN q) (fun i _ => m + 1 - (intOf i).toNat)
    case atStart => exact ⟨0, Nat.zero_le _, rfl, rfl, 0, rfl⟩
    case round =>
      obtain ⟨k, hk, rfl, hinc, q, rfl⟩ := hrel
      by_cases hlt : k < m
      · have g1 : w.cell? ⟨b, off + (k + 1), none⟩ = some (.int .i32 (f (k + 1))) := hc (k + 1) (by omega)
        have g0 : w.cell? ⟨b, off + k, none⟩ = some (.int .i32 (f k)) := hc k (by omega)
        clear hc
        have HI : Hid (incB f (k + 1) = true) := hinc
        clear hinc
        by_cases hle : f (k + 1) ≤ f k
        · go_wp2
          go_quiet (fail)
          go_wp2
          go_ret
          have e : incB f (k + 2) = false := by simp [incB]; omega
          have e2 := incB_false (n := m + 1) e (by omega)
          exact ⟨by simp [dioB, e2], _, World.drewN_drewN _ _ _⟩
        · go_wp2
          go_quiet (fail)
          go_wp2
          go_roundw
          case rel => exact ⟨k + 1, by omega, by go_num, by have := HI.out; simp [incB, this]; omega, _, rfl⟩
          case measure => simp [intOf]; omega
      · obtain rfl : k = m := by omega
        have g0 : w.cell? ⟨b, off + k, none⟩ = some (.int .i32 (f k)) := hc k (by omega)
        clear hc
        have HI : Hid (incB f (k + 1) = true) := hinc
        clear hinc
        go_wp2
        go_quiet (fail)
        go_wp2
        go_ret
        refine ⟨congrArg (fun x => Ending.returned (.bool x)) ?_, _, World.drewN_drewN _ _ _⟩
        have h := HI.out
        simp only [dioB, h, Bool.true_and]
        rw [Bool.eq_iff_iff]; simp; exact eq_comm

set_option maxHeartbeats 400000 in
theorem days_none (b off n c : Nat) (f : Nat → Int) (w : World) (hn : n ≤ 1048577)
    (hc : ∀ j, j < n → w.cell? ⟨b, off + j, none⟩ = some (.int .i32 (f j))) :
    Calls Try.prog 21 #[.slice (some ⟨b, off, none⟩) n c, .pointer none] w fun e w' => e = .returned (.bool (dioB f n Option.none)) ∧ ∃ q, w' = w.drewN q := by
  match n, hn, hc with
  | 0, _, _ =>
    go_enter Try.func21, Try.ntmps21
    go_wp2
    go_ret
    exact ⟨rfl, 0, rfl⟩
  | m + 1, hn, hc =>
    have h0 : ((m : Int) + 1 == 0) = false := by rw [beq_eq_false_iff_ne]; omega
    go_enter Try.func21, Try.ntmps21
    go_wp2
    go_loopw [5] (fun i wr => ∃ k : Nat, k ≤ m ∧ i = .int .i64 (k + 1) ∧ incB f (k + 1) = true ∧ ∃ q, wr = w.drewN q) (fun i _ => m + 1 - (intOf i).toNat)
    case atStart => exact ⟨0, Nat.zero_le _, rfl, rfl, 0, rfl⟩
    case round =>
      obtain ⟨k, hk, rfl, hinc, q, rfl⟩ := hrel
      by_cases hlt : k < m
      · have g1 : w.cell? ⟨b, off + (k + 1), none⟩ = some (.int .i32 (f (k + 1))) := hc (k + 1) (by omega)
        have g0 : w.cell? ⟨b, off + k, none⟩ = some (.int .i32 (f k)) := hc k (by omega)
        clear hc
        have HI : Hid (incB f (k + 1) = true) := hinc
        clear hinc
        by_cases hle : f (k + 1) ≤ f k
        · go_wp2
          go_quiet (fail)
          go_wp2
          go_ret
          have e : incB f (k + 2) = false := by simp [incB]; omega
          have e2 := incB_false (n := m + 1) e (by omega)
          exact ⟨by simp [dioB, e2], _, World.drewN_drewN _ _ _⟩
        · go_wp2
          go_quiet (fail)
          go_wp2
          go_roundw
          case rel => exact ⟨k + 1, by omega, by go_num, by have := HI.out; simp [incB, this]; omega, _, rfl⟩
          case measure => simp [intOf]; omega
      · obtain rfl : k = m := by omega
        have g0 : w.cell? ⟨b, off + k, none⟩ = some (.int .i32 (f k)) := hc k (by omega)
        clear hc
        have HI : Hid (incB f (k + 1) = true) := hinc
        clear hinc
        go_wp2
        go_quiet (fail)
        go_wp2
        go_ret
        exact ⟨by simp [dioB], _, World.drewN_drewN _ _ _⟩

/-- ZZDaysInOrder hands on to daysInOrder. -/
theorem zz_some (b off n c pb po : Nat) (f : Nat → Int) (L : Int) (w : World) (hn : n ≤ 1048577)
    (hc : ∀ j, j < n → w.cell? ⟨b, off + j, none⟩ = some (.int .i32 (f j))) (hL : w.cell? ⟨pb, po, none⟩ = some (.int .i32 L)) :
    Calls Try.prog 17 #[.slice (some ⟨b, off, none⟩) n c, .pointer (some ⟨pb, po, none⟩)] w fun e w' => e = .returned (.bool (dioB f n (some L))) ∧ ∃ q, w' = w.drewN q := by
  have h := days_some b off n c pb po f L w hn hc hL
  have H := hide h
  clear h hc hL
  go_enter Try.func17, Try.ntmps17
  go_wp2_with fail
  refine (unhide H).mono ?_
  rintro e w' ⟨rfl, q, rfl⟩
  go_wp2
  go_ret
  exact ⟨rfl, q, rfl⟩

theorem zz_none (b off n c : Nat) (f : Nat → Int) (w : World) (hn : n ≤ 1048577)
    (hc : ∀ j, j < n → w.cell? ⟨b, off + j, none⟩ = some (.int .i32 (f j))) :
    Calls Try.prog 17 #[.slice (some ⟨b, off, none⟩) n c, .pointer none] w fun e w' => e = .returned (.bool (dioB f n Option.none)) ∧ ∃ q, w' = w.drewN q := by
  have h := days_none b off n c f w hn hc
  have H := hide h
  clear h hc
  go_enter Try.func17, Try.ntmps17
  go_wp2_with fail
  refine (unhide H).mono ?_
  rintro e w' ⟨rfl, q, rfl⟩
  go_wp2
  go_ret
  exact ⟨rfl, q, rfl⟩

theorem Try.size54 (w : World) : (sizeOf (Try.prog.elem 54)).run Try.prog w = .ok 1 w := by kernel_rfl
theorem Try.und54 : Try.prog.underlying 54 = some (.slice (Try.prog.elem 54)) := by kernel_rfl

theorem slice54_from (B off l n c : Nat) (h : l ≤ n) (hc : l < c) (w : World) :
    (Instr.slice 54 (.slice (some ⟨B, off, none⟩) n c) (some (.int .i64 l)) none none).run Try.prog w = .ok (.slice (some ⟨B, off + l, none⟩) (n - l) (c - l)) w := by
  rw [run_slice_l w 54 _ _ _ Try.und54 .i64 l (by omega) (by omega), Try.size54]
  have e : ¬ c = l := by omega
  simp [Result.andThen, sliced, Addr.add, e]
theorem slice54_to (B off h n c : Nat) (hh : h ≤ c) (w : World) :
    (Instr.slice 54 (.slice (some ⟨B, off, none⟩) n c) none (some (.int .i64 h)) none).run Try.prog w = .ok (.slice (some ⟨B, off, none⟩) h c) w := by
  rw [run_slice_h w 54 _ _ _ Try.und54 .i64 h (by omega) (by omega), Try.size54]
  simp [Result.andThen, sliced, Addr.add]
theorem slice54_in (B off l h n c : Nat) (hl : l ≤ h) (hh : h ≤ c) (hc : l < c) (w : World) :
    (Instr.slice 54 (.slice (some ⟨B, off, none⟩) n c) (some (.int .i64 l)) (some (.int .i64 h)) none).run Try.prog w = .ok (.slice (some ⟨B, off + l, none⟩) (h - l) (c - l)) w := by
  rw [run_slice_lh w 54 _ _ _ Try.und54 .i64 .i64 l h (by omega) (by omega) (by omega), Try.size54]
  have e : ¬ c = l := by omega
  simp [Result.andThen, sliced, Addr.add, e]
end Go.Proofs.Qxb6619464a

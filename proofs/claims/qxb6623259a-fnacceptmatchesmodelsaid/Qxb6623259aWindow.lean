import Derived.Test.Qxb6623259aAccept
namespace Go.Proofs.Qxb6623259a
open Go.ChangeShapes Go.WideShapes Go.RowKit

theorem nOf_pos (b : Nat) : 0 < nOf b := by unfold nOf; split <;> omega
theorem nOf_mod {a b : Nat} (h : a ≤ b) : a % 16385 < nOf b := by
  unfold nOf
  split
  · rw [Nat.mod_eq_of_lt (by omega)]; omega
  · exact Nat.mod_lt _ (by omega)
theorem nOf_mono {a b : Nat} (h : a ≤ b) : nOf a ≤ nOf b := by unfold nOf; split <;> split <;> omega

/-- WHAT Accept ANSWERS AND LEAVES. -/
structure AccPost (B : Nat → Prop) (wb : Nat) (fresh : Bool) (S : Nat → Bool) (top c : Nat) (w : World) (e : Ending) (w' : World) : Prop where
  ret : e = .returned (.bool (wantB fresh S top c))
  below : Keeps B w w'
  yes : wantB fresh S top c = true → ∃ r cap R, Win w' B wb (topOf fresh top c) r (nOf (topOf fresh top c / 64)) cap R ∧ Inv (addS S c) (topOf fresh top c) R
  no : wantB fresh S top c = false → w = w'

/-- the state of the window: fresh, or long enough for its top -/
def Shape (fresh : Bool) (S : Nat → Bool) (top len cap : Nat) : Prop := (fresh = true ∧ cap = 0 ∧ len = 0 ∧ top = 0 ∧ ∀ x, S x = false) ∨ (fresh = false ∧ len = nOf (top / 64))

/-- THE CONTRACT OF Accept. -/
theorem accept (B : Nat → Prop) (wb top len cap c : Nat) (fresh : Bool) (S : Nat → Bool) (r : Option Addr) (R : Nat → Nat) (w : World) (hc : c < 18446744073709551616) (ht : top < 18446744073709551616)
    (h : Win w B wb top r len cap R) (inv : Inv S top R) (sh : Shape fresh S top len cap) (hB : ∀ k, B k → k < w.heap.size) :
    Calls Try.prog 6 #[.pointer (some ⟨wb, 0, none⟩), .int .u64 (c : Int)] w (AccPost B wb fresh S top c w) := by
  have fF : (c : Int) / 64 = ((c / 64 : Nat) : Int) := by omega
  have fm : ((c / 64 : Nat) : Int) % 16385 = ((c / 64 % 16385 : Nat) : Int) := by omega
  have fq : (c : Int) % 64 = ((c % 64 : Nat) : Int) := by omega
  by_cases hnew : top < c ∨ r = none
  · have htc : top ≤ c := by
      rcases hnew with h1 | h1
      · omega
      · rcases sh with ⟨_, _, _, h0, _⟩ | ⟨_, hl⟩
        · omega
        · have h2 := h.ring.le
          have h3 := nOf_pos (top / 64)
          obtain ⟨rb, e, _⟩ := h.ring.row (by omega)
          rw [h1] at e
          cases e
    have hle : len ≤ nOf (c / 64) := by
      rcases sh with ⟨_, _, h0, _, _⟩ | ⟨_, hl⟩
      · omega
      · rw [hl]; exact nOf_mono (Nat.div_le_div_right htc)
    have hSc : S c = false := by
      rcases sh with ⟨_, _, _, _, hno⟩ | ⟨hf, hl⟩
      · exact hno c
      · rcases hnew with h1 | h1
        · cases hs : S c
          · rfl
          · have := inv.le c hs; omega
        · have h2 := h.ring.le
          have h3 := nOf_pos (top / 64)
          obtain ⟨rb, e, _⟩ := h.ring.row (by omega)
          rw [h1] at e
          cases e
    have hwant : wantB fresh S top c = true := by
      unfold wantB
      simp [hSc, htc]
    have htop : topOf fresh top c = c := by
      unfold topOf
      rcases sh with ⟨hf, _, _, _, _⟩ | ⟨hf, hl⟩
      · rw [if_pos (.inl hf)]
      · by_cases h1 : top < c
        · rw [if_pos (.inr h1)]
        · rw [if_neg (by simp [hf]; omega)]; omega
    refine (accept_new B wb top len cap c (c / 64 % 16385) (c % 64) (c / 64) r R w hc h htc hnew hle hB fF fm fq (nOf_mod (Nat.le_refl _))).mono ?_
    rintro e w' ⟨rb, cap1, R1, w1, h1, adv, hb1, hacc⟩
    have inv1 := inv.moved htc adv
    have hbit := inv1.bit (Nat.le_refl c) (by omega)
    rw [hSc] at hbit
    rcases hacc with ⟨hb, _⟩ | ⟨_, rfl, rfl⟩
    · rw [hbit] at hb; cases hb
    · obtain ⟨rb', e', hrb, _, _⟩ := h1.ring.row (by have := h1.ring.le; have := nOf_pos (c / 64); omega)
      cases e'
      refine ⟨by rw [hwant], hb1.setCell hrb _, fun _ => ?_, fun h0 => by rw [hwant] at h0; cases h0⟩
      rw [htop]
      exact ⟨_, cap1, _, win_bit h1 (by have := h1.ring.le; have := nOf_pos (c / 64); omega) _ _ (nOf_mod (Nat.le_refl _)) (Nat.mod_lt _ (by omega)), inv1.noted (Nat.le_refl c) (by omega)⟩
  · have hf : fresh = false ∧ len = nOf (top / 64) := by
      rcases sh with ⟨_, h0, _, _, _⟩ | h
      · exact absurd (.inr (h.ring.nil h0)) hnew
      · exact h
    obtain ⟨rfl, rfl⟩ := hf
    have hct : c ≤ top := by
      rcases Nat.lt_or_ge top c with h1 | h1
      · exact absurd (.inl h1) hnew
      · exact h1
    have hcb : c / 64 ≤ top / 64 := Nat.div_le_div_right hct
    have hcap : 0 < cap := by have := h.ring.le; have := nOf_pos (top / 64); omega
    obtain ⟨rb, rfl, hrb, hne, hrow⟩ := h.ring.row hcap
    by_cases hlate : top ≤ c + 1048576
    · have hreach : top / 64 < c / 64 + 16385 := by omega
      have hbit := inv.bit hct hreach
      refine (accept_in B wb top _ cap c (c / 64 % 16385) (c % 64) (c / 64) rb R w hc ht h hct fF fm fq (nOf_mod hcb) hlate).mono ?_
      rintro e w' hacc
      have htop : topOf false top c = top := by
        unfold topOf
        rw [if_neg (by simp; omega)]
      rcases hacc with ⟨hb, rfl, rfl⟩ | ⟨hb, rfl, rfl⟩
      · have hw : wantB false S top c = false := by unfold wantB; rw [← hbit, hb]; rfl
        exact ⟨by rw [hw], Keeps.refl _ _, fun h0 => (by rw [hw] at h0; cases h0), fun _ => rfl⟩
      · have hw : wantB false S top c = true := by unfold wantB; rw [← hbit, hb]; simp [hlate]
        refine ⟨by rw [hw], (Keeps.refl _ _).setCell hrb _, fun _ => ?_, fun h0 => by rw [hw] at h0; cases h0⟩
        rw [htop]
        exact ⟨_, cap, _, win_bit h hcap _ _ (nOf_mod hcb) (Nat.mod_lt _ (by omega)), inv.noted hct hreach⟩
    · have c0 : w.cell? ⟨wb, 0, none⟩ = some (.int .u64 (top : Int)) := by
        have := h.win.cell (i := 0) (by omega)
        simpa [winCells] using this
      have c1 : w.cell? ⟨wb, 1, none⟩ = some (.slice (some ⟨rb, 0, none⟩) (nOf (top / 64)) cap) := by
        have := h.win.cell (i := 1) (by omega)
        simpa [winCells] using this
      have hw : wantB false S top c = false := by
        unfold wantB
        have a1 : decide (top ≤ c) = false := by simp; omega
        have a2 : decide (top ≤ c + 1048576) = false := by simp; omega
        rw [a1, a2]; simp
      refine (accept_late wb top _ cap c ⟨rb, 0, none⟩ w c0 c1 hc ht (by omega)).mono ?_
      rintro e w' ⟨rfl, rfl⟩
      exact ⟨by rw [hw], Keeps.refl _ _, fun h0 => (by rw [hw] at h0; cases h0), fun _ => rfl⟩
end Go.Proofs.Qxb6623259a

import Derived.Test.Qxb6623259aAdvance
import Derived.Laws.Bits64b
namespace Go.Proofs.Qxb6623259a

theorem and_bit (x q : Nat) : ((x &&& 2 ^ q) = 0) ↔ x.testBit q = false := by
  constructor
  · intro h
    have : (x &&& 2 ^ q).testBit q = false := by rw [h]; exact Nat.zero_testBit q
    rw [Nat.testBit_and, Nat.testBit_two_pow_self, Bool.and_true] at this
    exact this
  · intro h
    apply Nat.eq_of_testBit_eq
    intro i
    rw [Nat.testBit_and, Nat.testBit_two_pow, Nat.zero_testBit]
    by_cases e : q = i
    · subst e; simp [h]
    · simp [e]

/-- WHAT THE RING HOLDS: of every block in reach the bits are the counters that have been seen; none seen lies above the top. -/
structure Inv (S : Nat → Bool) (top : Nat) (R : Nat → Nat) : Prop where
  bits : ∀ b i, b ≤ top / 64 → top / 64 < b + 16385 → i < 64 → (R (b % 16385)).testBit i = S (64 * b + i)
  le : ∀ x, S x = true → x ≤ top

/-- the window has moved on to c -/
theorem Inv.moved {S : Nat → Bool} {top c : Nat} {R R' : Nat → Nat} (h : Inv S top R) (htc : top ≤ c) (a : Adv R R' (top / 64) (c / 64)) : Inv S c R' := by
  refine ⟨fun b i hb hr hi => ?_, fun x hx => Nat.le_trans (h.le x hx) htc⟩
  have htt : top / 64 ≤ c / 64 := Nat.div_le_div_right htc
  by_cases hbt : b ≤ top / 64
  · rw [a.old b hbt hr]
    exact h.bits b i hbt (by omega) hi
  · rw [a.new b (by omega) hb hr, Nat.zero_testBit]
    cases hs : S (64 * b + i)
    · rfl
    · have := h.le _ hs
      omega

def setBit (R : Nat → Nat) (m q : Nat) : Nat → Nat := fun j => if j = m then R m ||| 2 ^ q else R j
def addS (S : Nat → Bool) (c : Nat) : Nat → Bool := fun x => x == c || S x

/-- c has been noted -/
theorem Inv.noted {S : Nat → Bool} {top c : Nat} {R : Nat → Nat} (h : Inv S top R) (hc : c ≤ top) (hl : top / 64 < c / 64 + 16385) : Inv (addS S c) top (setBit R (c / 64 % 16385) (c % 64)) := by
  refine ⟨fun b i hb hr hi => ?_, fun x hx => ?_⟩
  · have key := h.bits b i hb hr hi
    have hcb : c / 64 ≤ top / 64 := Nat.div_le_div_right hc
    unfold setBit addS
    by_cases e : b % 16385 = c / 64 % 16385
    · have eb : b = c / 64 := by omega
      rw [if_pos e, Nat.testBit_or, Nat.testBit_two_pow, ← e, key]
      by_cases ei : c % 64 = i
      · have ex : 64 * b + i = c := by omega
        simp [ei, ex]
      · have ex : ¬ 64 * b + i = c := by omega
        simp [ei, ex]
    · rw [if_neg e, key]
      have ex : ¬ 64 * b + i = c := by
        intro h
        apply e
        have : b = c / 64 := by omega
        rw [this]
      simp [ex]
  · unfold addS at hx
    simp only [Bool.or_eq_true, beq_iff_eq] at hx
    rcases hx with rfl | hx
    · exact hc
    · exact h.le x hx

/-- the bit that Accept looks at -/
theorem Inv.bit {S : Nat → Bool} {top c : Nat} {R : Nat → Nat} (h : Inv S top R) (hc : c ≤ top) (hl : top / 64 < c / 64 + 16385) : (R (c / 64 % 16385)).testBit (c % 64) = S c := by
  have hcb : c / 64 ≤ top / 64 := Nat.div_le_div_right hc
  have := h.bits (c / 64) (c % 64) hcb hl (Nat.mod_lt _ (by omega))
  rwa [show 64 * (c / 64) + c % 64 = c by omega] at this

/-- DOES THE MODEL ACCEPT c? -/
def wantB (fresh : Bool) (S : Nat → Bool) (top c : Nat) : Bool := fresh || (!S c && (decide (top ≤ c) || decide (top ≤ c + 1048576)))
/-- the highest counter then -/
def topOf (fresh : Bool) (top c : Nat) : Nat := if fresh = true ∨ top < c then c else top
end Go.Proofs.Qxb6623259a

import Derived.Test.Qxb6619464aBlind
import Derived.Deep.AppendLies
namespace Go.Proofs.Qxb6619464a
open Go.ChangeShapes Go.WideShapes Go.RowKit

/-- the positions of the holding's lots among the first i -/
def posL (L : Nat → LotV) (hs hc : ByteArray) : Nat → List Nat
  | 0 => []
  | i + 1 => posL L hs hc i ++ (if ofB (L i) hs hc then [i] else [])

theorem posL_le (L : Nat → LotV) (hs hc : ByteArray) : ∀ n, (posL L hs hc n).length ≤ n
  | 0 => Nat.le_refl _
  | n + 1 => by
    have := posL_le L hs hc n
    simp only [posL, List.length_append]
    split <;> simp <;> omega

theorem posL_lt (L : Nat → LotV) (hs hc : ByteArray) : ∀ n, ∀ x ∈ posL L hs hc n, x < n
  | 0, x, h => by simp [posL] at h
  | n + 1, x, h => by
    simp only [posL, List.mem_append] at h
    rcases h with h | h
    · have := posL_lt L hs hc n x h; omega
    · split at h <;> simp at h; omega

theorem posL_no {L : Nat → LotV} {hs hc : ByteArray} : ∀ {n : Nat}, (∀ j, j < n → ofB (L j) hs hc = false) → posL L hs hc n = []
  | 0, _ => rfl
  | n + 1, h => by simp [posL, posL_no (n := n) (fun j hj => h j (by omega)), h n (by omega)]

theorem posL_in {L : Nat → LotV} {hs hc : ByteArray} {n st d : Nat} (r : Run L hs hc n st (st + d)) : ∀ {i : Nat}, i ≤ d → posL L hs hc (st + i) = List.range' st i
  | 0, _ => by simpa using posL_no r.before
  | i + 1, h => by
    have ih := posL_in r (i := i) (by omega)
    have e : st + (i + 1) = (st + i) + 1 := by omega
    rw [e]
    simp only [posL, ih, r.within (st + i) (by omega) (by omega), if_true]
    rw [List.range'_concat]
    simp

theorem posL_out {L : Nat → LotV} {hs hc : ByteArray} {n st d : Nat} (r : Run L hs hc n st (st + d)) : ∀ {j : Nat}, st + d + j ≤ n → ∃ rest, posL L hs hc (st + d + j) = List.range' st d ++ rest ∧ ∀ x ∈ rest, st + d < x
  | 0, _ => ⟨[], by simpa using posL_in r (Nat.le_refl _), by simp⟩
  | j + 1, h => by
    obtain ⟨rest, e, hr⟩ := posL_out r (j := j) (by omega)
    have e2 : st + d + (j + 1) = (st + d + j) + 1 := by omega
    rw [e2]
    simp only [posL, e]
    cases hm : ofB (L (st + d + j)) hs hc
    · exact ⟨rest, by simp, hr⟩
    · refine ⟨rest ++ [st + d + j], by simp, fun x hx => ?_⟩
      rcases List.mem_append.1 hx with hx | hx
      · exact hr x hx
      · simp at hx
        subst hx
        have : j ≠ 0 := by
          rintro rfl
          have b := r.behind (by omega)
          rw [Nat.add_zero] at hm
          rw [hm] at b
          cases b
        omega

/-- WHAT THE LIST OF POSITIONS LOOKS LIKE WHERE THERE IS A RUN. -/
theorem posL_run {L : Nat → LotV} {hs hc : ByteArray} {n st d : Nat} (r : Run L hs hc n st (st + d)) :
    d ≤ (posL L hs hc n).length ∧ (∀ j, j < d → (posL L hs hc n)[j]? = some (st + j)) ∧ (d < (posL L hs hc n).length → ∃ x, (posL L hs hc n)[d]? = some x ∧ st + d < x ∧ x < n) := by
  obtain ⟨rest, e, hr⟩ := posL_out r (j := n - (st + d)) (by have := r.le; omega)
  have e1 : st + d + (n - (st + d)) = n := by have := r.le; omega
  rw [e1] at e
  refine ⟨by rw [e]; simp, fun j hj => ?_, fun hl => ?_⟩
  · rw [e, List.getElem?_append_left (by simpa using hj)]
    simp [hj]
  · have hlt := posL_lt L hs hc n
    rw [e] at hl hlt ⊢
    simp only [List.length_append, List.length_range'] at hl
    rw [List.getElem?_append_right (by simp)]
    simp only [List.length_range', Nat.sub_self]
    cases rest with
    | nil => simp at hl
    | cons x t => exact ⟨x, rfl, hr x (by simp), hlt x (by simp)⟩

/-- the positions as cells -/
def posV (L : Nat → LotV) (hs hc : ByteArray) (n : Nat) : List Value := (posL L hs hc n).map (fun j : Nat => Value.int .i64 (j : Int))

theorem posV_hit {L : Nat → LotV} {hs hc : ByteArray} {i : Nat} (h : ofB (L i) hs hc = true) : posV L hs hc (i + 1) = posV L hs hc i ++ [.int .i64 (i : Int)] ∧ (posL L hs hc (i + 1)).length = (posL L hs hc i).length + 1 := by
  simp [posV, posL, h]
theorem posV_miss {L : Nat → LotV} {hs hc : ByteArray} {i : Nat} (h : ofB (L i) hs hc = false) : posV L hs hc (i + 1) = posV L hs hc i ∧ (posL L hs hc (i + 1)).length = (posL L hs hc i).length := by
  simp [posV, posL, h]

theorem sameLot (y : LotV) (w : World) :
    Calls Try.prog 11 #[.agg #[.string y.a, .string y.s, .string y.c, .int .i32 y.d, .int .i64 y.n], .agg #[.string y.a, .string y.s, .string y.c, .int .i32 y.d, .int .i64 y.n]] w fun e w' => e = .returned (.bool true) ∧ Below w.heap.size w w' := by
  go_enter Try.func11, Try.ntmps11
  go_wp2
  go_ret
  exact ⟨rfl, ((Below.refl _ _).alloc (Nat.le_refl _) _).alloc (by simp) _⟩
end Go.Proofs.Qxb6619464a

import Derived.Maps.OwnSet
import Derived.Maps.RangeWalk
namespace Go.Proofs.Qxb6619464a
open Go.Maps

/-- an element below 0 -/
def isNeg : DataW Unit → Bool
  | .lit (.int _ c) => decide (c < 0)
  | _ => false

/-- how many elements are below 0 -/
def negD : DataW Unit → Nat
  | .map es => es.countP (fun p => isNeg p.2)
  | _ => 0

theorem countP_insert (f : Lit × DataW Unit → Bool) (x : Lit × DataW Unit) : ∀ l : List (Lit × DataW Unit), (DataW.insert x l).countP f = l.countP f + (if f x then 1 else 0)
  | [] => by simp [DataW.insert, List.countP_cons]
  | y :: r => by
    unfold DataW.insert
    split
    · simp [List.countP_cons]
    · simp only [List.countP_cons, countP_insert f x r]; omega

theorem countP_strike {k : Lit} (z : DataW Unit) : ∀ (es : List (Lit × DataW Unit)), es.Pairwise (fun p q => p.1 ≠ q.1) →
    (es.filter fun p => !p.1.sameKey k).countP (fun p => isNeg p.2) + (if (has (.map es) k && isNeg ((DataW.map es).atKey k z)) then 1 else 0) = es.countP (fun p => isNeg p.2)
  | [], _ => by simp [has]
  | y :: r, h => by
    obtain ⟨h1, h2⟩ := List.pairwise_cons.1 h
    have ih := countP_strike (k := k) z r h2
    cases hy : y.1.sameKey k
    · have e1 : has (.map (y :: r)) k = has (.map r) k := by simp [has, hy]
      have e2 : (DataW.map (y :: r)).atKey k z = (DataW.map r).atKey k z := by simp [DataW.atKey, hy]
      rw [e1, e2]
      simp only [List.filter_cons, hy, Bool.not_false, if_true, List.countP_cons]
      omega
    · have hr : has (.map r) k = false := by
        show r.any (fun p => p.1.sameKey k) = false
        rw [List.any_eq_false]
        intro p hp hpk
        exact h1 p hp ((WideAt.sameKey_eq hy).trans (WideAt.sameKey_eq hpk).symm)
      rw [hr] at ih
      have e1 : has (.map (y :: r)) k = true := by simp [has, hy]
      have e2 : (DataW.map (y :: r)).atKey k z = y.2 := by simp [DataW.atKey, hy]
      rw [e1, e2]
      simp only [List.filter_cons, hy, Bool.not_true, Bool.false_eq_true, if_false, List.countP_cons, Bool.true_and]
      simp only [Bool.false_and, Bool.false_eq_true, if_false, Nat.add_zero] at ih
      rw [ih]

/-- ONE MORE PUT. -/
theorem negD_put {D : DataW Unit} (h : Tidy D) (k : Lit) (d z : DataW Unit) :
    negD (D.put k d) + (if (has D k && isNeg (D.atKey k z)) then 1 else 0) = negD D + (if isNeg d then 1 else 0) := by
  obtain ⟨es, rfl, hp⟩ := h
  have := countP_strike (k := k) z es hp
  show (DataW.insert (k, d) (es.filter fun p => !p.1.sameKey k)).countP (fun p => isNeg p.2) + _ = es.countP (fun p => isNeg p.2) + _
  rw [countP_insert]
  show _ + (if isNeg d then 1 else 0) + _ = _
  omega

theorem negD_pos {D : DataW Unit} {k : Lit} (z : DataW Unit) (h : has D k = true) (hn : isNeg (D.atKey k z) = true) : 0 < negD D := by
  cases D <;> try (cases h; done)
  rename_i es
  have hh : (es.find? (fun p => p.1.sameKey k)).isSome = true := by
    rw [List.find?_isSome]
    exact List.any_eq_true.1 h
  obtain ⟨x, hx⟩ := Option.isSome_iff_exists.1 hh
  simp only [DataW.atKey, hx] at hn
  show 0 < es.countP (fun p => isNeg p.2)
  rw [List.countP_pos_iff]
  exact ⟨x, List.mem_of_find?_eq_some hx, hn⟩

theorem atKey_mem {es : List (Lit × DataW Unit)} (hp : es.Pairwise (fun p q => p.1 ≠ q.1)) {p : Lit × DataW Unit} (hm : p ∈ es) (hk : WideAt.IsKeyLit p.1) (z : DataW Unit) : (DataW.map es).atKey p.1 z = p.2 := by
  induction es with
  | nil => cases hm
  | cons y r ih =>
    obtain ⟨h1, h2⟩ := List.pairwise_cons.1 hp
    rcases List.mem_cons.1 hm with rfl | hm
    · simp [DataW.atKey, WideAt.sameKey_self hk]
    · have : y.1.sameKey p.1 = false := sameKey_ne (h1 p hm)
      have e := ih h2 hm
      simpa [DataW.atKey, this] using e

theorem negD_zero {D : DataW Unit} {es : List (Lit × DataW Unit)} (e : D = .map es) (hp : es.Pairwise (fun p q => p.1 ≠ q.1)) (hk : ∀ p ∈ es, WideAt.IsKeyLit p.1) (z : DataW Unit)
    (h : ∀ k, has D k = true → isNeg (D.atKey k z) = false) : negD D = 0 := by
  subst e
  show es.countP (fun p => isNeg p.2) = 0
  rw [List.countP_eq_zero]
  intro p hm
  have h1 : has (.map es) p.1 = true := by
    show es.any (fun q => q.1.sameKey p.1) = true
    rw [List.any_eq_true]
    exact ⟨p, hm, WideAt.sameKey_self (hk p hm)⟩
  have := h p.1 h1
  rw [atKey_mem hp hm (hk p hm)] at this
  simp [this]

/-- What reads as a key of a string's type IS that string. -/
theorem keyOf_string_inv' {P : Program} {k : TypeId} (hk : P.underlying k = some .string) {key : Value} {kl : Lit} (h : keyOf P k key = some kl) : ∃ s : ByteArray, key = .string s ∧ kl = .string s.data.toList ∧ s.size ≤ maxLen := by
  cases key <;> simp [keyOf, hk, mapKey] at h
  obtain ⟨hw, rfl⟩ := h
  exact ⟨_, rfl, rfl, hw⟩

section
variable {P : Program} (w : World) {ops : Array Oper} {rest : List Oper} {o : Oper} {a : Act} {Q : Exit → Act → World → Prop}

/-- THE STEP OF A RANGE OVER A MAP, STRING KEYS AND INTEGER ELEMENTS. -/
theorem wpList_next_ranges_si (hg : o.guard = none) (it : Operand) (hop : o.op = Op.next it false) (k e : TypeId) (qe : IntKind) (K : Keyed P k) (hk : P.underlying k = some .string) (he : P.underlying e = some (.int qe))
    (b r n : Nat) (D : DataW Unit) (left : Lit → Bool) (cnt : Nat) (hit : a.eval it = .pointer (some ⟨r, 0, none⟩)) (h : w.ranges P k (plainElem P e) b r n D left cnt)
    (hDone : cnt = 0 → (∀ kl, left kl = false) → wpList P ops Q rest (a.put o.dst (.tuple #[.bool false])) w)
    (hMore : ∀ (x : ByteArray) (c : Int) (w' : World) (cnt' : Nat), left (.string x.data.toList) = true → (∀ zd, D.atKey (.string x.data.toList) zd = .lit (.int qe c)) → w'.ranges P k (plainElem P e) b r n D (fun z => left z && !z.sameKey (.string x.data.toList)) cnt' → cnt' < cnt →
      w.grownBy w' (some r) → (Instr.entry (.pointer (some ⟨r, 0, none⟩))).run P w' = .ok (.tuple #[.string x, .int qe c]) w' → wpList P ops Q rest (a.put o.dst (.tuple #[.bool true, .string x, .int qe c])) w') :
    wpList P ops Q (o :: rest) a w :=
  wpList_next_ranges w hg it hop k K (plainElem P e) Value.string (Value.int qe) (fun key kl hkey => by obtain ⟨x, rfl, _⟩ := keyOf_string_inv' hk hkey; exact ⟨x, rfl⟩) (fun v y hv => by obtain ⟨c, rfl, _⟩ := plainElem_int_inv he hv; exact ⟨c, rfl⟩)
    b r n D left cnt hit h hDone (fun x c kl y w' cnt' hkey hlk hv hat hrg hlt hgr hsz hen => by
      obtain ⟨x', ex, rfl, hwx⟩ := keyOf_string_inv' hk hkey
      cases ex
      obtain ⟨c', ec, rfl, hwc⟩ := plainElem_int_inv he hv
      cases ec
      exact hMore x c w' cnt' hlk hat hrg hlt hgr hen)
end
end Go.Proofs.Qxb6619464a

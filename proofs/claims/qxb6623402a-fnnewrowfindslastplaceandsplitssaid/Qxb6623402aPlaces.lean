import Derived.Test.Qxb6623402aSmall
import Derived.Maps.RangeWalk
import Derived.Laws.IdiomRangeMap
import Derived.Deep.Onto
import Derived.Laws.OwnMore
namespace Go.Proofs.Qxb6623402a
open Go.ChangeShapes Go.WideShapes Go.RowKit Go.Maps

theorem law9 : Keyed Try.prog 9 := string_keyed Try.underlying9
theorem Try.info43 : (Try.prog.info? 43).map (fun i => (i.zero, i.size, i.bytes)) = some (some (.agg #[.string ⟨#[]⟩, .int .i64 0]), 2, 24) := by kernel_rfl

/-- THE PLACES IN THE MAKING: the array's block pb, its 32 slices V, what they hold. -/
def PInv (w : World) (pb : Nat) (V : Nat → Value) (L : Nat → List (ByteArray × Nat)) (f : Nat → ByteArray) (n : Nat) : Prop :=
  w.rowIs pb 40 32 V ∧ (∀ b, b < 32 → w.ownsRow (pb + 2) 43 2 (V b) (L b).length (flat (L b)) ∧ Sound f n (L b)) ∧ ∀ b b', b < 32 → b' < 32 → b ≠ b' → (V b).ownBlock = none ∨ (V b).ownBlock ≠ (V b').ownBlock

def putL (L : Nat → List (ByteArray × Nat)) (b : Nat) (x : ByteArray) (a : Nat) : Nat → List (ByteArray × Nat) := fun b' => if b' = b then L b ++ [(x, a)] else L b'

theorem grown_setCell (w : World) (p : Addr) (v : Value) : w.grownBy (w.setCell p v) (some p.block) :=
  ⟨rfl, rfl, rfl, by simp, fun i _ hne => Go.Deep.blk_setCell_other _ _ _ _ (fun e => hne (by rw [e]))⟩

theorem step_append_run {ops : Array Oper} {o : Oper} {a : Act} {w : World} {K : Act → World → Prop} {Q : Exit → Act → World → Prop} {G : Prop} (hgd : o.guard = none) (s x : Operand)
    (ho : o.op = .call { callee := .builtin .append, args := #[s, x], argTypes := #[38, 38] }) (v1 v2 v : Value) (w' : World) (hs : a.eval s = v1) (hx : a.eval x = v2)
    (hr : (Builtin.append_ #[38, 38] o.type #[v1, v2]).run Try.prog w = .ok v w') (h : K (a.put o.dst v) w') : if Region.wanted o (yielded ops a.tmps) = true then Oper.wp Try.prog o a w K Q else G := by
  have hw : Region.wanted o (yielded ops a.tmps) = true := by simp [Region.wanted, hgd]
  rw [if_pos hw]
  unfold Oper.wp execOp
  simp only [ho, resolve, invoke, builtin, Sem.run_bind, Sem.run_pure, Result.andThen_ok, List.map_toArray, List.map_cons, List.map_nil, hs, hx, hr]
  exact h

/-- ONE MORE PLACE. -/
theorem place_step {w : World} {pb mb cnt : Nat} {V : Nat → Value} {L : Nat → List (ByteArray × Nat)} {f : Nat → ByteArray} {n : Nat} {left : Lit → Bool} {x : ByteArray} {a : Nat} (h : PInv w pb V L f n) (hx : last f n x = some a) (hlen : (L (bk x)).length ≤ 4096)
    (hrg : w.ranges Try.prog 9 (plainElem Try.prog 3) mb (pb + 1) n (DTo f n) left cnt) (hmb : mb < pb) (hpb : pb + 2 ≤ w.heap.size) :
    ∃ g cap w4, (Builtin.append_ #[38, 38] 38 #[V (bk x), .slice (some ⟨w.heap.size, 0, none⟩) 1 1]).run Try.prog (w.alloc (.cells #[.string x, .int .i64 (a : Int)] 43)) = .ok (.slice (some ⟨g, 0, none⟩) ((L (bk x)).length + 1) cap) w4 ∧
      w4.cell? ⟨pb, bk x, none⟩ = some (V (bk x)) ∧ w4.frozen? ⟨pb, bk x, none⟩ = false ∧
      (∃ V', PInv (w4.setCell ⟨pb, bk x, none⟩ (.slice (some ⟨g, 0, none⟩) ((L (bk x)).length + 1) cap)) pb V' (putL L (bk x) x a) f n) ∧
      (w4.setCell ⟨pb, bk x, none⟩ (.slice (some ⟨g, 0, none⟩) ((L (bk x)).length + 1) cap)).ranges Try.prog 9 (plainElem Try.prog 3) mb (pb + 1) n (DTo f n) left cnt ∧
      Below pb w (w4.setCell ⟨pb, bk x, none⟩ (.slice (some ⟨g, 0, none⟩) ((L (bk x)).length + 1) cap)) := by
  obtain ⟨hrow, hown, hap⟩ := h
  have hb := bk_lt x
  generalize bk x = b at *
  obtain ⟨i, hi, hzz⟩ := Option.map_eq_some_iff.1 Try.info43
  simp only [Prod.mk.injEq] at hzz
  obtain ⟨hz, hs, hby⟩ := hzz
  have hblk : (w.alloc (.cells #[.string x, .int .i64 (a : Int)] 43)).heap[w.heap.size]? = some (.cells #[.string x, .int .i64 (a : Int)] 43 (0, 0)) := Go.Deep.blk_alloc_new _ _
  obtain ⟨g, cap, w4, hr, ho4, hg4, hgg, hgl⟩ := run_append_lies (P := Try.prog) (w.alloc (.cells #[.string x, .int .i64 (a : Int)] 43)) 38 38 (pb + 2) 43 i _ 2 24 Try.underlying38 hi hz hs hby rfl (by omega) (V b) (L b).length (flat (L b)) ((hown b hb).1.alloc _)
    ⟨w.heap.size, 0, none⟩ 1 1 [.string x, .int .i64 (a : Int)] rfl (World.news_of_block hblk) (by intro u hu; simp at hu; rcases hu with rfl | rfl <;> rfl) (by omega) (by unfold maxLen; omega) (by omega) (by simp; omega) (w.heap.size + 1) (by simp)
  have hlt := (hown b hb).1.lt
  have ne1 : ∀ k, k < pb + 2 → some k ≠ (V b).ownBlock := fun k hk e => by have := (hlt k e.symm).1; omega
  have hrow4 : w4.rowIs pb 40 32 V := (hrow.alloc _).of_block (hg4.block pb (by simp; omega) (ne1 pb (by omega)))
  have hga : pb + 2 ≤ g := by
    rcases hgg with e | e
    · exact (hlt g e).1
    · omega
  have hset := grown_setCell w4 ⟨pb, b, none⟩ (.slice (some ⟨g, 0, none⟩) ((L b).length + 1) cap)
  refine ⟨g, cap, w4, hr, hrow4.cell hb, hrow4.frozen b, ⟨fun b' => if b' = b then .slice (some ⟨g, 0, none⟩) ((L b).length + 1) cap else V b', ?_, ?_, ?_⟩, ?_, ?_⟩
  · exact hrow4.set b _
  · intro b' hb'
    by_cases e : b' = b
    · subst e
      simp only [putL, if_true]
      refine ⟨?_, fun p hp => ?_⟩
      · have h5 := ho4.kept hset (.inr (by simp [Value.ownBlock]; omega))
        rw [List.length_append, flat_app]
        exact h5
      · rcases List.mem_append.1 hp with hp | hp
        · exact (hown b' hb').2 p hp
        · simp at hp; subst hp; exact hx
    · simp only [putL, if_neg e]
      refine ⟨?_, (hown b' hb').2⟩
      have h3 := ((hown b' hb').1.alloc (.cells #[.string x, .int .i64 (a : Int)] 43)).kept hg4 (hap b' b hb' hb e)
      refine h3.kept hset ?_
      right
      intro ee
      have := (h3.lt pb ee).1
      omega
  · intro b1 b2 h1 h2 hne
    have old : ∀ b', b' < 32 → b' ≠ b → (V b').ownBlock ≠ some g := by
      intro b' hb' hn e
      have hl := (hown b' hb').1.lt g e
      rcases hgg with e2 | e2
      · rcases hap b' b hb' hb hn with e3 | e3
        · rw [e3] at e; cases e
        · exact e3 (e.trans e2.symm)
      · omega
    by_cases e1 : b1 = b
    · have e2 : ¬ b2 = b := fun e => hne (e1.trans e.symm)
      simp only [if_pos e1, if_neg e2]
      exact .inr (fun e => old b2 h2 e2 e.symm)
    · by_cases e2 : b2 = b
      · simp only [if_neg e1, if_pos e2]
        exact .inr (old b1 h1 e1)
      · simp only [if_neg e1, if_neg e2]
        exact hap b1 b2 h1 h2 hne
  · have h3 := (hrg.alloc (.cells #[.string x, .int .i64 (a : Int)] 43)).kept hg4 (ne1 mb (by omega)) (ne1 (pb + 1) (by omega))
    exact h3.kept hset (by simp; omega) (by simp)
  · have h3 : Below pb w w4 := ((Below.refl pb w).alloc (by omega) _).grown hg4 (by simp; omega) (fun k hk => by have := (hlt k hk).1; omega)
    exact h3.setCell (p := ⟨pb, b, none⟩) (Nat.le_refl _) _

theorem keyOf_string_inv' {P : Program} {k : TypeId} (hk : P.underlying k = some .string) {key : Value} {kl : Lit} (h : keyOf P k key = some kl) : ∃ s : ByteArray, key = .string s ∧ kl = .string s.data.toList ∧ s.size ≤ maxLen := by
  cases key <;> simp [keyOf, hk, mapKey] at h
  obtain ⟨hw, rfl⟩ := h
  exact ⟨_, rfl, rfl, hw⟩

section
variable {P : Program} (w : World) {ops : Array Oper} {rest : List Oper} {o : Oper} {a : Act} {Q : Exit → Act → World → Prop}

/-- THE STEP OF A RANGE OVER A MAP, STRING KEYS AND INTEGER ELEMENTS. -/
theorem wpList_next_ranges_si (hg : o.guard = none) (it : Operand) (hop : o.op = Op.next it false) (k e : TypeId) (qe : IntKind) (K : Keyed P k) (hk : P.underlying k = some .string) (he : P.underlying e = some (.int qe))
    (b r n : Nat) (D : DataW Unit) (left : Lit → Bool) (cnt : Nat) (hit : a.eval it = .pointer (some ⟨r, 0, none⟩)) (h : w.ranges P k (plainElem P e) b r n D left cnt)
    (hDone : cnt = 0 → (∀ kl, left kl = false) → wpList P ops Q rest (a.put o.dst (.tuple #[.bool false])) w)
    (hMore : ∀ (x : ByteArray) (c : Int) (w' : World) (cnt' : Nat), left (.string x.data.toList) = true → (∀ zd, D.atKey (.string x.data.toList) zd = .lit (.int qe c)) → w'.ranges P k (plainElem P e) b r n D (fun z => left z && !z.sameKey (.string x.data.toList)) cnt' → cnt' < cnt →
      w.grownBy w' (some r) → (Instr.entry (.pointer (some ⟨r, 0, none⟩))).run P w' = .ok (.tuple #[.string x, .int qe c]) w' → wpList P ops Q rest (a.put o.dst (.tuple #[.bool true, .string x, .int qe c])) w') :
    wpList P ops Q (o :: rest) a w :=
  wpList_next_ranges w hg it hop k K (plainElem P e) Value.string (Value.int qe) (fun key kl hkey => by obtain ⟨x, rfl, _⟩ := keyOf_string_inv' hk hkey; exact ⟨x, rfl⟩) (fun v y hv => by obtain ⟨c, rfl, _⟩ := plainElem_int_inv he hv; exact ⟨c, rfl⟩)
    b r n D left cnt hit h hDone (fun x c kl y w' cnt' hkey hlk hv hat hrg hlt hgr hsz hen => by
      obtain ⟨x', ex, rfl, hwx⟩ := keyOf_string_inv' hk hkey
      cases ex
      obtain ⟨c', ec, rfl, hwc⟩ := plainElem_int_inv he hv
      cases ec
      exact hMore x c w' cnt' hlk hat hrg hlt hgr hen)
end
end Go.Proofs.Qxb6623402a

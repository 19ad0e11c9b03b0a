import Derived.Test.Qxb6623333aPaths
import Derived.ArgAppend
import Derived.Deep.Upon
namespace Go.Proofs.Qxb6623333a
open Go.ChangeShapes Go.WideShapes Go.RowKit Go.Maps

/-- n of E, then F's -/
def cat (n : Nat) (E F : Nat → EV) : Nat → EV := fun j => if j < n then E j else F (j - n)

/-- the cells of n Elems -/
def elList (E : Nat → EV) (M : Nat → Option Nat) (n : Nat) : List Value := (List.range (n * 2)).map fun j => elAt (E (j / 2)).nm (M (j / 2)) (j % 2)

theorem elList_len (E : Nat → EV) (M : Nat → Option Nat) (n : Nat) : (elList E M n).length = n * 2 := by simp [elList]

theorem elList_get (E : Nat → EV) (M : Nat → Option Nat) (n j : Nat) (h : j < n * 2) : (elList E M n)[j]? = some (elAt (E (j / 2)).nm (M (j / 2)) (j % 2)) := by
  simp [elList, h]

theorem addr_add (b off j : Nat) : (⟨b, off, none⟩ : Addr).add j = ⟨b, off + j, none⟩ := by unfold Addr.add; split <;> simp_all

theorem elList_cells {w : World} {b off n : Nat} {E : Nat → EV} {M : Nat → Option Nat}
    (hc : ∀ j, j < n → w.cell? ⟨b, off + j * 2, none⟩ = some (.string (E j).nm) ∧ w.cell? ⟨b, off + j * 2 + 1, none⟩ = some (.map (M j))) :
    ∀ j u, (elList E M n)[j]? = some u → w.cell? ((⟨b, off, none⟩ : Addr).add j) = some u := by
  intro j u hu
  have hj : j < n * 2 := by
    have := (List.getElem?_eq_some_iff.1 hu).1
    rwa [elList_len] at this
  rw [elList_get _ _ _ _ hj] at hu
  cases hu
  rw [addr_add]
  obtain ⟨h0, h1⟩ := hc (j / 2) (by omega)
  have h2 : j % 2 = 0 ∨ j % 2 = 1 := by omega
  rcases h2 with h2 | h2
  · have e : off + j = off + j / 2 * 2 := by omega
    rw [e, h0, h2]; simp [elAt]
  · have e : off + j = off + j / 2 * 2 + 1 := by omega
    rw [e, h1, h2]; simp [elAt]

/-- the head, cut to its own length -/
theorem slice_nn (b off n c : Nat) (hc : n ≤ c) (w : World) : (Instr.slice 26 (.slice (some ⟨b, off, none⟩) n c) none (some (.int .i64 (n : Int))) (some (.int .i64 (n : Int)))).run Try.prog w = .ok (.slice (some ⟨b, off, none⟩) n n) w := by
  obtain ⟨i, hi, hzz⟩ := Option.map_eq_some_iff.1 Try.info48
  simp only [Prod.mk.injEq] at hzz
  obtain ⟨hz, hs, hb⟩ := hzz
  have he : Try.prog.elem 26 = 48 := by simp [Program.elem, Try.underlying26]
  rw [run_slice_hm w 26 _ n c (by rw [he]; exact Try.underlying26) .i64 .i64 n n (by omega) (Int.le_refl _) (by omega), he]
  simp [sizeOf, typeInfo, hi, hs, Result.andThen, sliced, addr_add]


/-- p as it lies in Below's own memory -/
def bw (w : World) (o : ByteArray) (q : Option Addr) (m c : Nat) : World := (w.alloc (.cells #[.string o, .slice q m c] 28)).alloc (.cells #[.string ⟨#[]⟩, .slice none 0 0] 28)

theorem bw_below (w : World) (o : ByteArray) (q : Option Addr) (m c : Nat) : Below w.heap.size w (bw w o q m c) := ((Below.refl _ _).alloc (Nat.le_refl _) _).alloc (by simp) _

/-- n = 0: p itself. -/
theorem below_zero (o : ByteArray) (q r : Option Addr) (m c cr : Nat) (w : World) :
    Calls Try.prog 10 #[.agg #[.string o, .slice q m c], .slice r 0 cr] w fun e w' => e = .returned (.agg #[.string o, .slice q m c]) ∧ Below w.heap.size w w' := by
  have B0 := hide (bw_below w o q m c)
  unfold bw at B0
  have B1 : Hid (Below w.heap.size w ((w.alloc (.cells #[.string o, .slice q m c] 28)).alloc (.cells #[.string o, .slice q m c] 28))) := ((Below.refl _ _).alloc (Nat.le_refl _) _).alloc (by simp) _
  go_enter Try.func10, Try.ntmps10
  go_wp2
  refine bodyPost_ret (v := .agg #[.string o, .slice q m c]) (by simp [results, Try.results10, go_sem]) rfl ⟨rfl, ?_⟩
  exact unhide B1

theorem append_none (b off n m c : Nat) (q : Option Addr) (hm : m = 0) (w : World) (ty : TypeId) : (Builtin.append_ #[26, 26] ty #[.slice (some ⟨b, off, none⟩) n n, .slice q m c]).run Try.prog w = .ok (.slice (some ⟨b, off, none⟩) n n) w := by
  subst hm
  obtain ⟨i, hi, hzz⟩ := Option.map_eq_some_iff.1 Try.info48
  cases q with
  | none => exact run_append_nothing w 26 26 ty 48 i Try.underlying26 hi _ n n (Nat.le_refl _) _ (Src.ofNil w Try.underlying26 c)
  | some a => exact run_append_nothing w 26 26 ty 48 i Try.underlying26 hi _ n n (Nat.le_refl _) _ (Src.ofSlice w Try.underlying26 a 0 c [] (by simp) (by simp) (by simp))

/-- An append whose run is known, at a step of a region that draws. -/
theorem step_append_run {ops : Array Oper} {o : Oper} {a : Act} {w : World} {K : Act → World → Prop} {Q : Exit → Act → World → Prop} {G : Prop} (hgd : o.guard = none) (s x : Operand)
    (ho : o.op = .call { callee := .builtin .append, args := #[s, x], argTypes := #[26, 26] }) (v1 v2 v : Value) (w' : World) (hs : a.eval s = v1) (hx : a.eval x = v2)
    (hr : (Builtin.append_ #[26, 26] o.type #[v1, v2]).run Try.prog w = .ok v w') (h : K (a.put o.dst v) w') : if Region.wanted o (yielded ops a.tmps) = true then Oper.wp Try.prog o a w K Q else G := by
  have hw : Region.wanted o (yielded ops a.tmps) = true := by simp [Region.wanted, hgd]
  rw [if_pos hw]
  unfold Oper.wp execOp
  simp only [ho, resolve, invoke, builtin, Sem.run_bind, Sem.run_pure, Result.andThen_ok, List.map_toArray, List.map_cons, List.map_nil, hs, hx, hr]
  exact h

/-- m = 0: the head itself. -/
theorem below_none (o : ByteArray) (q : Option Addr) (b off n c : Nat) (w : World) (hn : 0 < n) :
    Calls Try.prog 10 #[.agg #[.string o, .slice q 0 c], .slice (some ⟨b, off, none⟩) n n] w fun e w' => e = .returned (.agg #[.string o, .slice (some ⟨b, off, none⟩) n n]) ∧ Below w.heap.size w w' := by
  have hs := slice_nn b off n n (Nat.le_refl _)
  have ha := append_none b off n 0 c q rfl
  have B0 := hide (bw_below w o q 0 c)
  unfold bw at B0
  have d0 : ((n : Int) == 0) = false := by rw [beq_eq_false_iff_ne]; omega
  have p0 : ((w.alloc (.cells #[.string o, .slice q 0 c] 28)).alloc (.cells #[.string ⟨#[]⟩, .slice none 0 0] 28)).cell? ⟨w.heap.size, 0, none⟩ = some (.string o) := by simp [go_sem]
  have p1 : ((w.alloc (.cells #[.string o, .slice q 0 c] 28)).alloc (.cells #[.string ⟨#[]⟩, .slice none 0 0] 28)).cell? ⟨w.heap.size, 1, none⟩ = some (.slice q 0 c) := by simp [go_sem]
  have r0 : ((w.alloc (.cells #[.string o, .slice q 0 c] 28)).alloc (.cells #[.string ⟨#[]⟩, .slice none 0 0] 28)).cell? ⟨w.heap.size + 1, 0, none⟩ = some (.string ⟨#[]⟩) := by simp [go_sem]
  have r1 : ((w.alloc (.cells #[.string o, .slice q 0 c] 28)).alloc (.cells #[.string ⟨#[]⟩, .slice none 0 0] 28)).cell? ⟨w.heap.size + 1, 1, none⟩ = some (.slice none 0 0) := by simp [go_sem]
  have f0 : ((w.alloc (.cells #[.string o, .slice q 0 c] 28)).alloc (.cells #[.string ⟨#[]⟩, .slice none 0 0] 28)).frozen? ⟨w.heap.size + 1, 0, none⟩ = false := by simp [go_sem]
  have f1 : ((w.alloc (.cells #[.string o, .slice q 0 c] 28)).alloc (.cells #[.string ⟨#[]⟩, .slice none 0 0] 28)).frozen? ⟨w.heap.size + 1, 1, none⟩ = false := by simp [go_sem]
  go_enter Try.func10, Try.ntmps10
  go_wp2
  generalize (w.alloc (.cells #[.string o, .slice q 0 c] 28)).alloc (.cells #[.string ⟨#[]⟩, .slice none 0 0] 28) = w0 at *
  go_region_held3 (fun w' => w'.cell? ⟨w.heap.size, 0, none⟩ = some (.string o) ∧ w'.cell? ⟨w.heap.size, 1, none⟩ = some (.slice q 0 c)) (go_keep) (first | (refine step_append_run rfl _ _ rfl (.slice (some ⟨b, off, none⟩) n n) (.slice q 0 c) (.slice (some ⟨b, off, none⟩) n n) _ (by simp [Act.eval]) (by simp [Act.eval]) (ha _ _) ?_))
  have B2 : Hid (Below w.heap.size w ((w0.setCell ⟨w.heap.size + 1, 0, none⟩ (.string o)).setCell ⟨w.heap.size + 1, 1, none⟩ (.slice (some ⟨b, off, none⟩) n n)).drew) := (((unhide B0).setCell (p := ⟨w.heap.size + 1, 0, none⟩) (Nat.le_succ _) _).setCell (p := ⟨w.heap.size + 1, 1, none⟩) (Nat.le_succ _) _).drew
  go_wp2
  refine bodyPost_ret (v := .agg #[.string o, .slice (some ⟨b, off, none⟩) n n]) (by simp [results, Try.results10, go_sem, r0, r1]) rfl ⟨rfl, ?_⟩
  exact unhide B2

def catM (n : Nat) (E F : Nat → Option Nat) : Nat → Option Nat := fun j => if j < n then E j else F (j - n)

theorem elList_cat (E F : Nat → EV) (M N : Nat → Option Nat) (n m j : Nat) (hj : j < (n + m) * 2) : (elList E M n ++ elList F N m)[j]? = some (elAt (cat n E F (j / 2)).nm (catM n M N (j / 2)) (j % 2)) := by
  by_cases h : j < n * 2
  · rw [List.getElem?_append_left (by rw [elList_len]; exact h), elList_get _ _ _ _ h]
    have e : j / 2 < n := by omega
    simp [cat, catM, e]
  · rw [List.getElem?_append_right (by rw [elList_len]; omega), elList_len, elList_get _ _ _ _ (by omega)]
    have e : ¬ j / 2 < n := by omega
    have e1 : (j - n * 2) / 2 = j / 2 - n := by omega
    have e2 : (j - n * 2) % 2 = j % 2 := by omega
    simp [cat, catM, e, e1, e2]

theorem row_cell {w : World} {g j : Nat} {cur : Array Value} {t : TypeId} (h : w.heap[g]? = some (.cells cur t (0, 0))) : w.cell? ⟨g, j, none⟩ = cur[j]? := cell_of_row w g j cur t (0, 0) h

theorem append_elems {w : World} {b1 o1 n b2 o2 m c : Nat} {E F : Nat → EV} {M N : Nat → Option Nat} (hn : n ≤ 1048576) (hm : m ≤ 2097152) (hm0 : 0 < m)
    (h1 : ∀ j, j < n → w.cell? ⟨b1, o1 + j * 2, none⟩ = some (.string (E j).nm) ∧ w.cell? ⟨b1, o1 + j * 2 + 1, none⟩ = some (.map (M j)))
    (h2 : ∀ j, j < m → w.cell? ⟨b2, o2 + j * 2, none⟩ = some (.string (F j).nm) ∧ w.cell? ⟨b2, o2 + j * 2 + 1, none⟩ = some (.map (N j))) :
    ∃ g cap w', (Builtin.append_ #[26, 26] 26 #[.slice (some ⟨b1, o1, none⟩) n n, .slice (some ⟨b2, o2, none⟩) m c]).run Try.prog w = .ok (.slice (some ⟨g, 0, none⟩) (n + m) cap) w' ∧ w.grownBy w' none ∧ w.heap.size ≤ g ∧ g < w'.heap.size ∧
      ∀ j, j < n + m → w'.cell? ⟨g, 0 + j * 2, none⟩ = some (.string (cat n E F j).nm) ∧ w'.cell? ⟨g, 0 + j * 2 + 1, none⟩ = some (.map (catM n M N j)) := by
  obtain ⟨i, hi, hzz⟩ := Option.map_eq_some_iff.1 Try.info48
  simp only [Prod.mk.injEq] at hzz
  obtain ⟨hz, hs, hb⟩ := hzz
  obtain ⟨v, w', hr, ⟨hl, hown⟩, hg⟩ := run_append_arg_grows (P := Try.prog) w 26 26 48 i _ 2 24 Try.underlying26 hi hz hs hb rfl (by omega) ⟨b1, o1, none⟩ n n (elList E M n) (elList_len _ _ _) (elList_cells h1) ⟨b2, o2, none⟩ m c (elList F N m) (elList_len _ _ _) (elList_cells h2) (by omega) (by unfold maxLen; omega) (by omega)
  rcases hown with ⟨_, h0⟩ | ⟨g, cap, cur, rfl, hbg, hgc, _, _, hsz, htk⟩
  · omega
  · refine ⟨g, cap, w', hr, hg, hbg, (Array.getElem?_eq_some_iff.1 hgc).1, fun j hj => ?_⟩
    have key : ∀ r, r < 2 → w'.cell? ⟨g, 0 + j * 2 + r, none⟩ = some (elAt (cat n E F j).nm (catM n M N j) r) := by
      intro r hr'
      have e := elList_cat E F M N n m (j * 2 + r) (by omega)
      have e2 : (j * 2 + r) / 2 = j := by omega
      have e3 : (j * 2 + r) % 2 = r := by omega
      rw [e2, e3, ← htk, List.getElem?_take_of_lt (by omega), Array.getElem?_toList] at e
      rw [row_cell hgc, Nat.zero_add, e]
    exact ⟨key 0 (by omega), key 1 (by omega)⟩


set_option maxHeartbeats 1000000 in
theorem below_both (o : ByteArray) (b1 o1 n b2 o2 m c : Nat) (E F : Nat → EV) (w : World) (hn0 : 0 < n) (hm0 : 0 < m) (hn : n ≤ 1048576) (hm : m ≤ 2097152)
    (h1 : TElems w w.heap.size (some ⟨b1, o1, none⟩) n E) (h2 : TElems w w.heap.size (some ⟨b2, o2, none⟩) m F) :
    Calls Try.prog 10 #[.agg #[.string o, .slice (some ⟨b2, o2, none⟩) m c], .slice (some ⟨b1, o1, none⟩) n n] w fun e w' => ∃ r cap, e = .returned (.agg #[.string o, .slice r (n + m) cap]) ∧ Below w.heap.size w w' ∧ TElems w' w'.heap.size r (n + m) (cat n E F) := by
  have hs := slice_nn b1 o1 n n (Nat.le_refl _)
  have B0 := hide (bw_below w o (some ⟨b2, o2, none⟩) m c)
  unfold bw at B0
  have d0 : ((n : Int) == 0) = false := by rw [beq_eq_false_iff_ne]; omega
  have p0 : ((w.alloc (.cells #[.string o, .slice (some ⟨b2, o2, none⟩) m c] 28)).alloc (.cells #[.string ⟨#[]⟩, .slice none 0 0] 28)).cell? ⟨w.heap.size, 0, none⟩ = some (.string o) := by simp [go_sem]
  have p1 : ((w.alloc (.cells #[.string o, .slice (some ⟨b2, o2, none⟩) m c] 28)).alloc (.cells #[.string ⟨#[]⟩, .slice none 0 0] 28)).cell? ⟨w.heap.size, 1, none⟩ = some (.slice (some ⟨b2, o2, none⟩) m c) := by simp [go_sem]
  have r0 : ((w.alloc (.cells #[.string o, .slice (some ⟨b2, o2, none⟩) m c] 28)).alloc (.cells #[.string ⟨#[]⟩, .slice none 0 0] 28)).cell? ⟨w.heap.size + 1, 0, none⟩ = some (.string ⟨#[]⟩) := by simp [go_sem]
  have r1 : ((w.alloc (.cells #[.string o, .slice (some ⟨b2, o2, none⟩) m c] 28)).alloc (.cells #[.string ⟨#[]⟩, .slice none 0 0] 28)).cell? ⟨w.heap.size + 1, 1, none⟩ = some (.slice none 0 0) := by simp [go_sem]
  have f0 : ((w.alloc (.cells #[.string o, .slice (some ⟨b2, o2, none⟩) m c] 28)).alloc (.cells #[.string ⟨#[]⟩, .slice none 0 0] 28)).frozen? ⟨w.heap.size + 1, 0, none⟩ = false := by simp [go_sem]
  have f1 : ((w.alloc (.cells #[.string o, .slice (some ⟨b2, o2, none⟩) m c] 28)).alloc (.cells #[.string ⟨#[]⟩, .slice none 0 0] 28)).frozen? ⟨w.heap.size + 1, 1, none⟩ = false := by simp [go_sem]
  have Z0 : Hid (((w.alloc (.cells #[.string o, .slice (some ⟨b2, o2, none⟩) m c] 28)).alloc (.cells #[.string ⟨#[]⟩, .slice none 0 0] 28)).heap.size = w.heap.size + 2) := by simp [Hid]
  have T1 := hide h1
  have T2 := hide h2
  clear h1 h2
  go_enter Try.func10, Try.ntmps10
  go_wp2
  generalize (w.alloc (.cells #[.string o, .slice (some ⟨b2, o2, none⟩) m c] 28)).alloc (.cells #[.string ⟨#[]⟩, .slice none 0 0] 28) = w0 at *
  obtain ⟨b1', o1', e, hb1, M, hc1⟩ := (unhide T1) hn0
  cases e
  obtain ⟨b2', o2', e, hb2, N, hc2⟩ := (unhide T2) hm0
  cases e
  obtain ⟨g, cap, wA, hr, hg, hg1, hg2, hgc⟩ := append_elems (w := w0.drew) (c := c) hn hm hm0 (fun j hj => ⟨((unhide B0).drew.cell (by exact hb1)).trans (hc1 j hj).1, ((unhide B0).drew.cell (by exact hb1)).trans (hc1 j hj).2.1⟩) (fun j hj => ⟨((unhide B0).drew.cell (by exact hb2)).trans (hc2 j hj).1, ((unhide B0).drew.cell (by exact hb2)).trans (hc2 j hj).2.1⟩)
  have z1 := unhide Z0
  have pA0 : wA.cell? ⟨w.heap.size, 0, none⟩ = some (.string o) := (hg.cell_far _ (by simp [z1]) (by simp)).trans p0
  have pA1 : wA.cell? ⟨w.heap.size, 1, none⟩ = some (.slice (some ⟨b2, o2, none⟩) m c) := (hg.cell_far _ (by simp [z1]) (by simp)).trans p1
  have rA0 : wA.cell? ⟨w.heap.size + 1, 0, none⟩ = some (.string ⟨#[]⟩) := (hg.cell_far _ (by simp [z1]) (by simp)).trans r0
  have rA1 : wA.cell? ⟨w.heap.size + 1, 1, none⟩ = some (.slice none 0 0) := (hg.cell_far _ (by simp [z1]) (by simp)).trans r1
  have fA0 : wA.frozen? ⟨w.heap.size + 1, 0, none⟩ = false := (hg.frozen_far _ (by simp [z1]) (by simp)).trans f0
  have fA1 : wA.frozen? ⟨w.heap.size + 1, 1, none⟩ = false := (hg.frozen_far _ (by simp [z1]) (by simp)).trans f1
  have BA : Hid (Below w.heap.size w wA) := (unhide B0).drew.grown hg (by simp [z1]) (fun k hk => by cases hk)
  have hgg : ¬ g = w.heap.size + 1 := by simp [z1] at hg1; omega
  have GC := hide hgc
  have HC1 := hide (fun j hj => (hc1 j hj).2.2)
  have HC2 := hide (fun j hj => (hc2 j hj).2.2)
  clear hgc hc1 hc2 hg r0 r1 f0 f1
  go_region_held3 (fun w' => w'.cell? ⟨w.heap.size, 0, none⟩ = some (.string o) ∧ w'.cell? ⟨w.heap.size, 1, none⟩ = some (.slice (some ⟨b2, o2, none⟩) m c)) (go_keep) (first | (refine step_append_run rfl _ _ rfl (.slice (some ⟨b1, o1, none⟩) n n) (.slice (some ⟨b2, o2, none⟩) m c) (.slice (some ⟨g, 0, none⟩) (n + m) cap) wA (by simp [Act.eval]) (by simp [Act.eval]) (by exact hr) ?_))
  have BF : Hid (Below w.heap.size w ((wA.setCell ⟨w.heap.size + 1, 0, none⟩ (.string o)).setCell ⟨w.heap.size + 1, 1, none⟩ (.slice (some ⟨g, 0, none⟩) (n + m) cap))) := ((unhide BA).setCell (p := ⟨w.heap.size + 1, 0, none⟩) (Nat.le_succ _) _).setCell (p := ⟨w.heap.size + 1, 1, none⟩) (Nat.le_succ _) _
  have TF : Hid (TElems ((wA.setCell ⟨w.heap.size + 1, 0, none⟩ (.string o)).setCell ⟨w.heap.size + 1, 1, none⟩ (.slice (some ⟨g, 0, none⟩) (n + m) cap)) ((wA.setCell ⟨w.heap.size + 1, 0, none⟩ (.string o)).setCell ⟨w.heap.size + 1, 1, none⟩ (.slice (some ⟨g, 0, none⟩) (n + m) cap)).heap.size (some ⟨g, 0, none⟩) (n + m) (cat n E F)) := by
    intro _
    have far : ∀ x, ((wA.setCell ⟨w.heap.size + 1, 0, none⟩ (.string o)).setCell ⟨w.heap.size + 1, 1, none⟩ (.slice (some ⟨g, 0, none⟩) (n + m) cap)).cell? ⟨g, x, none⟩ = wA.cell? ⟨g, x, none⟩ := fun x => by
      rw [World.cell?_setCell_far _ _ _ _ (fun h => hgg h.symm), World.cell?_setCell_far _ _ _ _ (fun h => hgg h.symm)]
    refine ⟨g, 0, rfl, by simpa using hg2, catM n M N, fun j hj => ⟨(far _).trans (unhide GC j hj).1, (far _).trans (unhide GC j hj).2, ?_⟩⟩
    unfold cat catM
    by_cases h : j < n
    · simp only [h, if_true]
      exact (unhide HC1 j h).later (unhide BF) (unhide BF).size
    · simp only [h, if_false]
      exact (unhide HC2 (j - n) (by omega)).later (unhide BF) (unhide BF).size
  go_wp2
  refine bodyPost_ret (v := .agg #[.string o, .slice (some ⟨g, 0, none⟩) (n + m) cap]) (by simp [results, Try.results10, go_sem, rA0, rA1]) rfl ⟨some ⟨g, 0, none⟩, cap, rfl, ?_, ?_⟩
  · exact unhide BF
  · exact unhide TF

/-- Below: THE PREFIX'S ELEMENTS, THEN p's. -/
theorem below (o : ByteArray) (r q : Option Addr) (n m c : Nat) (E F : Nat → EV) (w : World) (hn : n ≤ 1048576) (hm : m ≤ 2097152)
    (h1 : TElems w w.heap.size r n E) (h2 : TElems w w.heap.size q m F) :
    Calls Try.prog 10 #[.agg #[.string o, .slice q m c], .slice r n n] w fun e w' => ∃ r' cap, e = .returned (.agg #[.string o, .slice r' (n + m) cap]) ∧ Below w.heap.size w w' ∧ TElems w' w'.heap.size r' (n + m) (cat n E F) := by
  by_cases hn0 : n = 0
  · subst hn0
    refine (below_zero o q r m c 0 w).mono ?_
    rintro e w' ⟨rfl, hb⟩
    refine ⟨q, c, by rw [Nat.zero_add], hb, ?_⟩
    have e : cat 0 E F = F := by funext j; simp [cat]
    rw [e, Nat.zero_add]
    exact h2.later hb hb.size
  · obtain ⟨b1, o1, rfl, _⟩ := h1 (by omega)
    by_cases hm0 : m = 0
    · subst hm0
      refine (below_none o q b1 o1 n c w (by omega)).mono ?_
      rintro e w' ⟨rfl, hb⟩
      refine ⟨_, n, rfl, hb, fun hh => ?_⟩
      obtain ⟨b, off, e, hlt, M, hc⟩ := h1.later hb hb.size hh
      refine ⟨b, off, e, hlt, M, fun j hj => ?_⟩
      have hj' : j < n := by omega
      simp only [cat, hj', if_true]
      exact hc j hj'
    · obtain ⟨b2, o2, rfl, _⟩ := h2 (by omega)
      exact below_both o b1 o1 n b2 o2 m c E F w (by omega) (by omega) hn hm h1 h2
end Go.Proofs.Qxb6623333a

import Derived.Test.Qxb6623402aFind
namespace Go.Proofs.Qxb6623402a
open Go.ChangeShapes Go.WideShapes Go.RowKit Go.Maps

/-- what zzAgrees does with the answers: the last place lw; what the three Rows find -/
structure Says (r ra rb : Nat) (path : ByteArray) (R : Option Addr) (n c : Nat) (f : Nat → ByteArray) (cut : Nat) (w : World) : Prop where
  hn : n ≤ 4096
  hcut : cut ≤ n
  strs : StrsAt w w.heap.size R n f
  ofR : RowIs w w.heap.size r path f n
  ofA : RowIs w w.heap.size ra path f cut
  ofB : RowIs w w.heap.size rb path (fun j => f (cut + j)) (n - cut)

theorem Says.later {r ra rb : Nat} {path : ByteArray} {R : Option Addr} {n c : Nat} {f : Nat → ByteArray} {cut : Nat} {w w' : World} (h : Says r ra rb path R n c f cut w) (hb : Below w.heap.size w w') : Says r ra rb path R n c f cut w' :=
  ⟨h.hn, h.hcut, h.strs.later hb hb.size, h.ofR.later hb hb.size, h.ofA.later hb hb.size, h.ofB.later hb hb.size⟩

/-- the answers fit -/
def Fits (cut : Nat) (o oa ob : Option Nat) : Prop := (∃ j, ob = some j ∧ o = some (cut + j) ∧ cut + j < 4096) ∨ (ob = none ∧ ∃ j, o = some j ∧ oa = some j ∧ j < 4096) ∨ (ob = none ∧ o = none ∧ oa = none)

theorem fits (f : Nat → ByteArray) (n cut : Nat) (x : ByteArray) (hn : n ≤ 4096) (hc : cut ≤ n) : Fits cut (last f n x) (last f cut x) (last (fun j => f (cut + j)) (n - cut) x) := by
  have h := last_split f cut x (n - cut)
  rw [show cut + (n - cut) = n by omega] at h
  cases hb : last (fun j => f (cut + j)) (n - cut) x with
  | some j =>
    rw [hb] at h
    have := last_lt hb
    exact .inl ⟨j, rfl, h, by omega⟩
  | none =>
    rw [hb] at h
    simp only at h
    cases ha : last f cut x with
    | some j =>
      have := last_lt ha
      exact .inr (.inl ⟨rfl, j, by rw [h, ha], rfl, by omega⟩)
    | none => exact .inr (.inr ⟨rfl, by rw [h, ha], rfl⟩)

set_option maxHeartbeats 2000000 in
theorem agrees (r ra rb : Nat) (path : ByteArray) (R : Option Addr) (n c : Nat) (f : Nat → ByteArray) (cut : Nat) (x : ByteArray) (w : World) (h : Says r ra rb path R n c f cut w) :
    Calls Try.prog 7 #[.pointer (some ⟨r, 0, none⟩), .pointer (some ⟨ra, 0, none⟩), .pointer (some ⟨rb, 0, none⟩), .slice R n c, .int .i64 (cut : Int), .string x] w fun e w' => e = .returned (.bool true) ∧ Below w.heap.size w w' := by
  have hfit := fits f n cut x h.hn h.hcut
  have hL : lastInt f n x = match last f n x with | some j => (j : Int) | none => -1 := rfl
  have H := hide h
  have H1 := hide (lastIndex R n c f x w h.hn h.strs)
  have H2 : Hid (∀ w', Below w.heap.size w w' → _) := fun w' (hb : Below w.heap.size w w') => rowFind r path x f n w' h.hn ((h.later hb).ofR)
  have H3 : Hid (∀ w', Below w.heap.size w w' → _) := fun w' (hb : Below w.heap.size w w') => rowFind rb path x (fun j => f (cut + j)) (n - cut) w' (by have := h.hn; omega) ((h.later hb).ofB)
  have H4 : Hid (∀ w', Below w.heap.size w w' → _) := fun w' (hb : Below w.heap.size w w') => rowFind ra path x f cut w' (by have := h.hn; have := h.hcut; omega) ((h.later hb).ofA)
  generalize last f n x = o at *
  generalize last f cut x = oa at *
  generalize last (fun j => f (cut + j)) (n - cut) x = ob at *
  generalize lastInt f n x = z at *
  clear h
  rcases hfit with ⟨j, rfl, rfl, hj⟩ | ⟨rfl, j, rfl, rfl, hj⟩ | ⟨rfl, rfl, rfl⟩
  · simp only at hL
    subst hL
    simp only [placeOf, Option.isSome_some] at H2 H3
    obtain ⟨q, hq⟩ : ∃ q : Nat, cut + j = q := ⟨_, rfl⟩
    have hw : IntKind.i64.wrap ((cut : Int) + (j : Int)) = (q : Int) := by rw [← hq, IntKind.wrap_i64]; all_goals omega
    rw [hq] at H1 H2
    have d0 : decide ((q : Int) < 0) = false := by simp
    have HQ := hide hq
    clear hq hj
    cases hoa : oa <;> rw [hoa] at H4 <;> (
      simp only [placeOf, Option.isSome_some, Option.isSome_none] at H4
      go_enter Try.func7, Try.ntmps7
      go_wp2_with fail
      refine (unhide H1).mono ?_
      rintro e w1 ⟨rfl, rfl⟩
      go_wp2_with fail
      refine (unhide H2 _ (Below.refl _ _)).mono ?_
      rintro e w2 ⟨rfl, hb2⟩
      go_wp2_with fail
      refine (unhide H3 _ hb2).mono ?_
      rintro e w3 ⟨rfl, hb3⟩
      have hb3' := hb2.trans (hb3.mono hb2.size)
      go_wp2_with fail
      refine (unhide H4 _ hb3').mono ?_
      rintro e w4 ⟨rfl, hb4⟩
      have hb4' := hide (hb3'.trans (hb4.mono hb3'.size))
      clear hb2 hb3 hb4 hb3'
      go_wp2
      go_ret
      exact ⟨rfl, unhide hb4'⟩)
  · simp only at hL
    subst hL
    simp only [placeOf, Option.isSome_some, Option.isSome_none] at H2 H3 H4
    have d0 : decide ((j : Int) < 0) = false := by simp
    have HJ := hide hj
    clear hj
    go_enter Try.func7, Try.ntmps7
    go_wp2_with fail
    refine (unhide H1).mono ?_
    rintro e w1 ⟨rfl, rfl⟩
    go_wp2_with fail
    refine (unhide H2 _ (Below.refl _ _)).mono ?_
    rintro e w2 ⟨rfl, hb2⟩
    go_wp2_with fail
    refine (unhide H3 _ hb2).mono ?_
    rintro e w3 ⟨rfl, hb3⟩
    have hb3' := hb2.trans (hb3.mono hb2.size)
    go_wp2_with fail
    refine (unhide H4 _ hb3').mono ?_
    rintro e w4 ⟨rfl, hb4⟩
    have hb4' := hide (hb3'.trans (hb4.mono hb3'.size))
    clear hb2 hb3 hb4 hb3'
    go_wp2
    go_ret
    exact ⟨rfl, unhide hb4'⟩
  · simp only at hL
    subst hL
    simp only [placeOf, Option.isSome_none] at H2 H3 H4
    go_enter Try.func7, Try.ntmps7
    go_wp2_with fail
    refine (unhide H1).mono ?_
    rintro e w1 ⟨rfl, rfl⟩
    go_wp2_with fail
    refine (unhide H2 _ (Below.refl _ _)).mono ?_
    rintro e w2 ⟨rfl, hb2⟩
    go_wp2_with fail
    refine (unhide H3 _ hb2).mono ?_
    rintro e w3 ⟨rfl, hb3⟩
    have hb3' := hb2.trans (hb3.mono hb2.size)
    go_wp2_with fail
    refine (unhide H4 _ hb3').mono ?_
    rintro e w4 ⟨rfl, hb4⟩
    have hb4' := hide (hb3'.trans (hb4.mono hb3'.size))
    clear hb2 hb3 hb4 hb3'
    go_wp2
    go_ret
    exact ⟨rfl, unhide hb4'⟩
end Go.Proofs.Qxb6623402a

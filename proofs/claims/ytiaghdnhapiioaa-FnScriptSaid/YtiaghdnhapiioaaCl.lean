/-
  The contracts of the functions that the reference's Do hands to From.
-/
import Derived.Test.YtiaghdnhapiioaaLeast
namespace Go.Proofs.Ytiaghdnhapiioaa
set_option linter.unusedSimpArgs false
set_option linter.unusedVariables false
open Go.RowKit

set_option maxHeartbeats 1000000 in
theorem cl6_c (R b c n i A : Nat) (f : Nat → Bool) (t : Bool) (op B : Int) (w : World) (hD : DoB w R b c n t op A B) (hs : SpecSet w (.agg #[.slice (some ⟨b, 0, none⟩) n c, .bool t]) n f t) (hi : i ≤ 20000) (hA : A ≤ 20000) :
    Calls Try.prog 33 ((#[] : Array Value).push (.int .i64 i) ++ #[.pointer (some ⟨R, 0, none⟩), .pointer (some ⟨R + 1, 0, none⟩)]) w fun e w' => e = .returned (.bool (fAt n f ((i : Int) - A))) ∧ Kept [] w w' := by
  obtain ⟨a0, a1, a2, a3, a4, a5, a6, a7, a8⟩ := hD.cells
  go_enter Try.func33, Try.ntmps33
  go_wp2_with fail
  refine (at_c _ n f t ((i : Int) - A) _ hs).mono ?_
  rintro e w1 ⟨rfl, k1⟩
  obtain ⟨e0, e1, e2, e3, e4, _, _, _, _⟩ := (hD.kept k1).cells
  go_wp2_with fail
  go_ret
  exact ⟨rfl, k1⟩

set_option maxHeartbeats 1000000 in
theorem cl7_c (R b c n i A : Nat) (f : Nat → Bool) (t : Bool) (op B : Int) (w : World) (hD : DoB w R b c n t op A B) (hs : SpecSet w (.agg #[.slice (some ⟨b, 0, none⟩) n c, .bool t]) n f t) (hi : i ≤ 20000) (hA : A ≤ 20000) :
    Calls Try.prog 34 ((#[] : Array Value).push (.int .i64 i) ++ #[.pointer (some ⟨R, 0, none⟩), .pointer (some ⟨R + 1, 0, none⟩)]) w fun e w' => e = .returned (.bool (fAt n f ((i : Int) + A))) ∧ Kept [] w w' := by
  obtain ⟨a0, a1, a2, a3, a4, a5, a6, a7, a8⟩ := hD.cells
  go_enter Try.func34, Try.ntmps34
  go_wp2_with fail
  refine (at_c _ n f t ((i : Int) + A) _ hs).mono ?_
  rintro e w1 ⟨rfl, k1⟩
  obtain ⟨e0, e1, e2, e3, e4, _, _, _, _⟩ := (hD.kept k1).cells
  go_wp2_with fail
  go_ret
  exact ⟨rfl, k1⟩

set_option maxHeartbeats 1000000 in
theorem cl8_c (R b c n i A : Nat) (f : Nat → Bool) (t : Bool) (op B : Int) (w : World) (hD : DoB w R b c n t op A B) (hs : SpecSet w (.agg #[.slice (some ⟨b, 0, none⟩) n c, .bool t]) n f t) (hi : i ≤ 20000) (_hA : A ≤ 20000) :
    Calls Try.prog 35 ((#[] : Array Value).push (.int .i64 i) ++ #[.pointer (some ⟨R + 1, 0, none⟩), .pointer (some ⟨R, 0, none⟩)]) w fun e w' => e = .returned (.bool ((decide (i < A) && fAt n f i) || (decide (A < i) && fAt n f ((i : Int) - 1)))) ∧ Kept [] w w' := by
  obtain ⟨a0, a1, a2, a3, a4, a5, a6, a7, a8⟩ := hD.cells
  by_cases h1 : (i : Int) < (A : Int)
  · have h2 : ¬ (A : Int) < i := by omega
    have d1 : decide (i < A) = true := by simp; omega
    have d2 : decide (A < i) = false := by simp; omega
    rw [d1, d2]
    cases hx : fAt n f (i : Int) with
    | true =>
      have HX := Lib.hid hx
      clear hx
      go_enter Try.func35, Try.ntmps35
      go_wp2_with fail
      refine (at_c _ n f t (i) _ hs).mono ?_
      rintro e w1 ⟨rfl, k1⟩
      obtain ⟨e0, e1, e2, e3, e4, _, _, _, _⟩ := (hD.kept k1).cells
      rw [HX.out]

      go_wp2_with fail
      go_ret
      exact ⟨by simp, k1⟩
    | false =>
      have HX := Lib.hid hx
      clear hx
      go_enter Try.func35, Try.ntmps35
      go_wp2_with fail
      refine (at_c _ n f t (i) _ hs).mono ?_
      rintro e w1 ⟨rfl, k1⟩
      obtain ⟨e0, e1, e2, e3, e4, _, _, _, _⟩ := (hD.kept k1).cells
      rw [HX.out]

      go_wp2_with fail
      go_ret
      exact ⟨by simp, k1⟩
  · by_cases h2 : (A : Int) < i
    · have d1 : decide (i < A) = false := by simp; omega
      have d2 : decide (A < i) = true := by simp; omega
      rw [d1, d2]
      obtain ⟨x, hx⟩ : ∃ x, fAt n f ((i : Int) - 1) = x := ⟨_, rfl⟩
      have HX := Lib.hid hx
      rw [hx]
      clear hx
      go_enter Try.func35, Try.ntmps35
      go_wp2_with fail
      refine (at_c _ n f t ((i : Int) - 1) _ hs).mono ?_
      rintro e w1 ⟨rfl, k1⟩
      obtain ⟨e0, e1, e2, e3, e4, _, _, _, _⟩ := (hD.kept k1).cells
      rw [HX.out]

      go_wp2_with fail
      go_ret
      exact ⟨by simp, k1⟩
    · have d1 : decide (i < A) = false := by simp; omega
      have d2 : decide (A < i) = false := by simp; omega
      rw [d1, d2]
      go_enter Try.func35, Try.ntmps35
      go_wp2_with fail

      go_ret
      exact ⟨by simp, Kept.refl _ _⟩

set_option maxHeartbeats 1000000 in
theorem cl9_c (R b c n i A : Nat) (f : Nat → Bool) (t : Bool) (op B : Int) (w : World) (hD : DoB w R b c n t op A B) (hs : SpecSet w (.agg #[.slice (some ⟨b, 0, none⟩) n c, .bool t]) n f t) (hi : i ≤ 20000) (_hA : A ≤ 20000) :
    Calls Try.prog 36 ((#[] : Array Value).push (.int .i64 i) ++ #[.pointer (some ⟨R + 1, 0, none⟩), .pointer (some ⟨R, 0, none⟩)]) w fun e w' => e = .returned (.bool ((decide (i < A) && fAt n f i) || (decide (A ≤ i) && fAt n f ((i : Int) + 1)))) ∧ Kept [] w w' := by
  obtain ⟨a0, a1, a2, a3, a4, a5, a6, a7, a8⟩ := hD.cells
  by_cases h1 : (i : Int) < (A : Int)
  · have h2 : ¬ (A : Int) ≤ i := by omega
    have d1 : decide (i < A) = true := by simp; omega
    have d2 : decide (A ≤ i) = false := by simp; omega
    rw [d1, d2]
    cases hx : fAt n f (i : Int) with
    | true =>
      have HX := Lib.hid hx
      clear hx
      go_enter Try.func36, Try.ntmps36
      go_wp2_with fail
      refine (at_c _ n f t (i) _ hs).mono ?_
      rintro e w1 ⟨rfl, k1⟩
      obtain ⟨e0, e1, e2, e3, e4, _, _, _, _⟩ := (hD.kept k1).cells
      rw [HX.out]

      go_wp2_with fail
      go_ret
      exact ⟨by simp, k1⟩
    | false =>
      have HX := Lib.hid hx
      clear hx
      go_enter Try.func36, Try.ntmps36
      go_wp2_with fail
      refine (at_c _ n f t (i) _ hs).mono ?_
      rintro e w1 ⟨rfl, k1⟩
      obtain ⟨e0, e1, e2, e3, e4, _, _, _, _⟩ := (hD.kept k1).cells
      rw [HX.out]

      go_wp2_with fail
      go_ret
      exact ⟨by simp, k1⟩
  · by_cases h2 : (A : Int) ≤ i
    · have d1 : decide (i < A) = false := by simp; omega
      have d2 : decide (A ≤ i) = true := by simp; omega
      rw [d1, d2]
      obtain ⟨x, hx⟩ : ∃ x, fAt n f ((i : Int) + 1) = x := ⟨_, rfl⟩
      have HX := Lib.hid hx
      rw [hx]
      clear hx
      go_enter Try.func36, Try.ntmps36
      go_wp2_with fail
      refine (at_c _ n f t ((i : Int) + 1) _ hs).mono ?_
      rintro e w1 ⟨rfl, k1⟩
      obtain ⟨e0, e1, e2, e3, e4, _, _, _, _⟩ := (hD.kept k1).cells
      rw [HX.out]

      go_wp2_with fail
      go_ret
      exact ⟨by simp, k1⟩
    · exact absurd h1 (by omega)


theorem fAt_in {n : Nat} {f : Nat → Bool} {x : Int} (k : Nat) (e : x = (k : Int)) (h : k < n) : fAt n f x = f k := by
  subst e
  have h1 : ((k : Nat) : Int) < (n : Int) := by omega
  unfold fAt
  rw [show decide ((0 : Int) ≤ ((k : Nat) : Int)) = true by simp, decide_eq_true h1]
  rfl
theorem fAt_out {n : Nat} {f : Nat → Bool} {x : Int} (h : x < 0 ∨ (n : Int) ≤ x) : fAt n f x = false := by
  unfold fAt
  rcases h with h | h
  · rw [show decide ((0 : Int) ≤ x) = false by simp; omega]; rfl
  · rw [show decide (x < (n : Int)) = false by simp; omega]; simp
theorem onL_ins (n i : Nat) (f : Nat → Bool) (hin : i < n) : onL (n + 1) (fun j => (decide (j < i) && fAt n f j) || (decide (i < j) && fAt n f ((j : Int) - 1))) = onL (n + 1) (fun j => if j < i then f j else !(j == i) && f (j - 1)) := by
  refine onL_both _ _ _ _ fun j => ?_
  by_cases h : j < n + 1
  · rw [decide_eq_true h, Bool.true_and, Bool.true_and]
    rcases Nat.lt_trichotomy j i with h1 | h1 | h1
    · rw [if_pos h1, fAt_in j rfl (by omega), decide_eq_true h1, show decide (i < j) = false by simp; omega]; simp
    · subst h1; simp
    · rw [if_neg (by omega), fAt_in (x := (j : Int) - 1) (j - 1) (by omega) (by omega), decide_eq_true h1, show decide (j < i) = false by simp; omega, show (j == i) = false by simp; omega]; simp
  · rw [decide_eq_false h]; simp
theorem onL_del (n i : Nat) (f : Nat → Bool) (hin : i < n) : onL n (fun j => (decide (j < i) && fAt n f j) || (decide (i ≤ j) && fAt n f ((j : Int) + 1))) = onL (n - 1) (fun j => if j < i then f j else f (j + 1)) := by
  refine onL_both _ _ _ _ fun j => ?_
  by_cases h1 : j < i
  · rw [if_pos h1, fAt_in j rfl (by omega), decide_eq_true h1, show decide (i ≤ j) = false by simp; omega, show decide (j < n) = true by simp; omega, show decide (j < n - 1) = true by simp; omega]; simp
  · rw [if_neg h1, decide_eq_false h1, show decide (i ≤ j) = true by simp; omega]
    by_cases h2 : j < n - 1
    · rw [fAt_in (x := (j : Int) + 1) (j + 1) (by omega) (by omega), decide_eq_true h2, show decide (j < n) = true by simp; omega]; simp
    · rw [fAt_out (x := (j : Int) + 1) (by omega), decide_eq_false h2]; simp

end Go.Proofs.Ytiaghdnhapiioaa

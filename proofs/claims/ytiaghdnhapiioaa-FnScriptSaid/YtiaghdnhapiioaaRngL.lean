/-
  The bits of a set with a range set or flipped, as lists. Under no condition.
-/
import Derived.Test.YtiaghdnhapiioaaKdE
import Derived.Test.YtiaghdnhapiioaaMemo
import Derived.Test.YtiaghdnhapiioaaRng
namespace Go.Proofs.Ytiaghdnhapiioaa
set_option linter.unusedSimpArgs false
set_option linter.unusedVariables false
open Go.RowKit


theorem fAt_nat (n : Nat) (f : Nat → Bool) (j : Nat) : fAt n f (j : Int) = (decide (j < n) && f j) := by
  by_cases h : j < n
  · rw [fAt_in j rfl h, decide_eq_true h, Bool.true_and]
  · rw [fAt_out (.inr (by omega)), decide_eq_false h, Bool.false_and]
theorem rngF_set (n : Nat) (f : Nat → Bool) (a e j : Nat) (h : a < e) : rngF true n f a e j = ((decide (a ≤ j) && decide (j < e)) || (decide (j < n) && f j)) := by
  unfold rngF; rw [fAt_nat]
  generalize (decide (j < n) && f j) = x
  by_cases h1 : a ≤ j
  · by_cases h2 : j < e
    · rw [decide_eq_true h1, decide_eq_true h2, decide_eq_false (show ¬ j < a by omega), decide_eq_false (show ¬ e ≤ j by omega)]; cases x <;> rfl
    · rw [decide_eq_true h1, decide_eq_false h2, decide_eq_false (show ¬ j < a by omega), decide_eq_true (show e ≤ j by omega)]; cases x <;> rfl
  · rw [decide_eq_false h1, decide_eq_true (show j < e by omega), decide_eq_true (show j < a by omega)]; cases x <;> simp
theorem rngF_flip (n : Nat) (f : Nat → Bool) (a e j : Nat) (h : a < e) : rngF false n f a e j = ((decide (a ≤ j) && decide (j < e)) ^^ (decide (j < n) && f j)) := by
  unfold rngF; rw [fAt_nat]
  generalize (decide (j < n) && f j) = x
  by_cases h1 : a ≤ j
  · by_cases h2 : j < e
    · rw [decide_eq_true h1, decide_eq_true h2, decide_eq_false (show ¬ j < a by omega), decide_eq_false (show ¬ e ≤ j by omega)]; cases x <;> rfl
    · rw [decide_eq_true h1, decide_eq_false h2, decide_eq_false (show ¬ j < a by omega), decide_eq_true (show e ≤ j by omega)]; cases x <;> rfl
  · rw [decide_eq_false h1, decide_eq_true (show j < e by omega), decide_eq_true (show j < a by omega)]; cases x <;> simp
theorem rngS_in (n i k : Nat) (f : Nat → Bool) (h : i < k) (hk : k ≤ n) : onL n (rngF true n f i k) = onL (rngN n i k) (fun j => (decide (i ≤ j) && decide (j < k)) || (decide (j < n) && f j)) := by
  rw [rngN_in h hk]
  exact onL_both _ _ _ _ fun j => by rw [rngF_set n f i k j h]
theorem rngS_out (n i k : Nat) (f : Nat → Bool) (h : i < k) (hk : n < k) : onL k (rngF true n f i k) = onL (rngN n i k) (fun j => (decide (i ≤ j) && decide (j < k)) || (decide (j < n) && f j)) := by
  rw [rngN_out h hk]
  exact onL_both _ _ _ _ fun j => by rw [rngF_set n f i k j h]
theorem rngX_in (n i k : Nat) (f : Nat → Bool) (h : i < k) (hk : k ≤ n) : onL n (rngF false n f i k) = onL (rngN n i k) (fun j => (decide (i ≤ j) && decide (j < k)) ^^ (decide (j < n) && f j)) := by
  rw [rngN_in h hk]
  exact onL_both _ _ _ _ fun j => by rw [rngF_flip n f i k j h]
theorem rngX_out (n i k : Nat) (f : Nat → Bool) (h : i < k) (hk : n < k) : onL k (rngF false n f i k) = onL (rngN n i k) (fun j => (decide (i ≤ j) && decide (j < k)) ^^ (decide (j < n) && f j)) := by
  rw [rngN_out h hk]
  exact onL_both _ _ _ _ fun j => by rw [rngF_flip n f i k j h]

end Go.Proofs.Ytiaghdnhapiioaa

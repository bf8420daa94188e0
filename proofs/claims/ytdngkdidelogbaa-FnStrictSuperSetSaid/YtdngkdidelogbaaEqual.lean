/-
  Two sets compared, bit by bit and word by word; the contract of Equal, for sets of at most 20000 bits.
-/
import Derived.Test.YtdngkdidelogbaaTwo
import Derived.Test.YtdngkdidelogbaaPart
namespace Go.Proofs.Ytdngkdidelogbaa
set_option linter.unusedSimpArgs false
set_option linter.unusedVariables false
open Go.RowKit


def allB (n : Nat) (p : Nat → Bool) : Bool := (List.range n).all p
theorem allB_zero (p : Nat → Bool) : allB 0 p = true := rfl
theorem allB_succ (n : Nat) (p : Nat → Bool) : allB (n + 1) p = (allB n p && p n) := by simp [allB, List.range_succ, List.all_append]
theorem allB_congr (n : Nat) (p q : Nat → Bool) (h : ∀ j, j < n → p j = q j) : allB n p = allB n q := by
  induction n with
  | zero => rfl
  | succ n ih => rw [allB_succ, allB_succ, ih (fun j hj => h j (by omega)), h n (by omega)]
theorem allB_iff (n : Nat) (p : Nat → Bool) : allB n p = true ↔ ∀ j, j < n → p j = true := by simp [allB]
/-- Words are told by their bits. -/
theorem words_eq {ws zs : List Nat} {n k : Nat} {f1 f2 : Nat → Bool} (h1 : WordsOk ws n f1) (h2 : WordsOk zs n f2) (h : ∀ j, j < n → f1 j = f2 j) : ws.getD k 0 = zs.getD k 0 := by
  refine Nat.eq_of_testBit_eq fun t => ?_
  by_cases ht : t < 64
  · rw [h1.testAt k t ht, h2.testAt k t ht]
    by_cases hj : 64 * k + t < n
    · rw [h _ hj]
    · rw [decide_eq_false hj]; rfl
  · rw [testBit_big (h1.word k) (by omega), testBit_big (h2.word k) (by omega)]
theorem bits_eq {ws zs : List Nat} {n : Nat} {f1 f2 : Nat → Bool} (h1 : WordsOk ws n f1) (h2 : WordsOk zs n f2) (h : ∀ q, q < (n + 63) / 64 → ws.getD q 0 = zs.getD q 0) (j : Nat) (hj : j < n) : f1 j = f2 j := by
  have a := h1.test j
  have b := h2.test j
  rw [h (j / 64) (by omega), b, decide_eq_true hj, Bool.true_and, Bool.true_and] at a
  exact a.symm


end Go.Proofs.Ytdngkdidelogbaa

/-
  The list of a set's bits, read as a set again.
-/
import Derived.Test.YtafbdkcbgjpolaaDoorLeast
namespace Go.Proofs.YtafbdkcbgjpolaaDoor
set_option linter.unusedSimpArgs false
set_option linter.unusedVariables false
set_option maxRecDepth 100000
open Go.RowKit


theorem memOf_onL (n : Nat) (f : Nat → Bool) (j : Nat) : memOf (onL n f) j = (decide (j < n) && f j) := by
  unfold memOf onL
  cases hf : f j <;> simp [hf]
theorem onL_lt (n : Nat) (f : Nat → Bool) : ∀ x ∈ onL n f, x < n := by
  intro x hx
  unfold onL at hx
  simp at hx
  exact hx.1
theorem lenOf_onL (N n : Nat) (f : Nat → Bool) (h : n ≤ N) : lenOf N (onL n f) = N :=
  Nat.le_antisymm (lenOf_le N _ N (Nat.le_refl _) (fun x hx => Nat.lt_of_lt_of_le (onL_lt n f x hx) h)) (le_lenOf N _)

end Go.Proofs.YtafbdkcbgjpolaaDoor

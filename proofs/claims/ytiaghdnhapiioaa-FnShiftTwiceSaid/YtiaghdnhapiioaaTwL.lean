/-
  The bits of a set that is shifted twice. Under no condition.
-/
import Derived.Test.YtiaghdnhapiioaaMemo
import Derived.Test.YtiaghdnhapiioaaRow
namespace Go.Proofs.Ytiaghdnhapiioaa
set_option linter.unusedSimpArgs false
set_option linter.unusedVariables false
open Go.RowKit


theorem shr_twice (N i k : Nat) (f : Nat → Bool) : onL N (fun j => decide (j + k < N) && memOf (onL N (fun j => decide (j + i < N) && f (j + i))) (j + k)) = onL N (fun j => decide (j + (i + k) < N) && f (j + (i + k))) := by
  refine onL_both _ _ _ _ fun j => ?_
  rw [memOf_onL, show j + k + i = j + (i + k) by omega]
  by_cases h : j + (i + k) < N
  · rw [decide_eq_true h, decide_eq_true (show j + k < N by omega)]; simp
  · rw [decide_eq_false h]; simp

end Go.Proofs.Ytiaghdnhapiioaa

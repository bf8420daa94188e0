/-
  The bits of the complement of a union, and of the intersection of the complements. Under no condition.
-/
import Derived.Test.YtiaghdnhapiioaaMemo
import Derived.Test.YtiaghdnhapiioaaRow
namespace Go.Proofs.Ytiaghdnhapiioaa
set_option linter.unusedSimpArgs false
set_option linter.unusedVariables false
open Go.RowKit


theorem dm_left (N : Nat) (f g : Nat → Bool) : onL N (fun j => !memOf (onL N (fun j => f j || g j)) j) = onL N (fun i => !(decide (i < N) && f i) && !(decide (i < N) && g i)) := by
  refine onL_both _ _ _ _ fun j => ?_
  rw [memOf_onL]
  cases decide (j < N) <;> cases f j <;> cases g j <;> rfl
theorem dm_right (N : Nat) (f g : Nat → Bool) : onL N (fun j => memOf (onL N (fun j => !f j)) j && memOf (onL N (fun j => !g j)) j) = onL N (fun i => !(decide (i < N) && f i) && !(decide (i < N) && g i)) := by
  refine onL_both _ _ _ _ fun j => ?_
  rw [memOf_onL, memOf_onL]
  cases decide (j < N) <;> cases f j <;> cases g j <;> rfl

end Go.Proofs.Ytiaghdnhapiioaa

/-
  The bits of a set that is shifted to the left and back. Under no condition.
-/
import Derived.Test.YtiaghdnhapiioaaMemo
import Derived.Test.YtiaghdnhapiioaaRow
namespace Go.Proofs.Ytiaghdnhapiioaa
set_option linter.unusedSimpArgs false
set_option linter.unusedVariables false
open Go.RowKit


theorem onL_shift (f : Nat → Bool) (i N : Nat) : onL (N + i) (fun j => decide (i ≤ j) && f (j - i)) = (onL N f).map (· + i) := by
  induction N with
  | zero =>
    rw [show onL 0 f = [] from rfl, List.map_nil]
    refine List.filter_eq_nil_iff.2 fun x hx => ?_
    have := List.mem_range.1 hx
    rw [decide_eq_false (show ¬ i ≤ x by omega), Bool.false_and]; simp
  | succ n ih =>
    rw [show n + 1 + i = n + i + 1 by omega]
    cases h : f n with
    | true =>
      have hh : (fun j => decide (i ≤ j) && f (j - i)) (n + i) = true := by
        show (decide (i ≤ n + i) && f (n + i - i)) = true
        rw [decide_eq_true (show i ≤ n + i by omega), show n + i - i = n by omega, h]; rfl
      rw [onL_yes hh, ih, onL_yes h, List.map_append]; rfl
    | false =>
      have hh : (fun j => decide (i ≤ j) && f (j - i)) (n + i) = false := by
        show (decide (i ≤ n + i) && f (n + i - i)) = false
        rw [show n + i - i = n by omega, h, Bool.and_false]
      rw [onL_no hh, ih, onL_no h]
theorem shl_list (f : Nat → Bool) (i N : Nat) : onL (N + i) (fun j => decide (i ≤ j) && (decide (j - i < N) && f (j - i))) = (onL N f).map (· + i) := by
  rw [← onL_shift f i N]
  refine onL_both _ _ _ _ fun j => ?_
  by_cases h : j < N + i
  · by_cases h2 : i ≤ j
    · rw [decide_eq_true (show j - i < N by omega), Bool.true_and]
    · rw [decide_eq_false h2, Bool.false_and, Bool.false_and]
  · rw [decide_eq_false h, Bool.false_and, Bool.false_and]
theorem shl_len (f : Nat → Bool) (i N : Nat) : (onL (N + i) (fun j => decide (i ≤ j) && (decide (j - i < N) && f (j - i)))).length = (onL N f).length := by rw [shl_list, List.length_map]
theorem memOf_shift (l : List Nat) (i j : Nat) : memOf (l.map (· + i)) (j + i) = memOf l j := by
  have : (j + i ∈ l.map (· + i)) ↔ j ∈ l := by
    rw [List.mem_map]
    exact ⟨fun ⟨x, h1, h2⟩ => by have : x = j := by omega
                                 rw [← this]; exact h1, fun h => ⟨j, h, rfl⟩⟩
  unfold memOf
  by_cases h : j ∈ l
  · rw [decide_eq_true h, decide_eq_true (this.2 h)]
  · rw [decide_eq_false h, decide_eq_false (fun h2 => h (this.1 h2))]
/-- Back again, whatever the length is. -/
theorem back_list (N M i : Nat) (f : Nat → Bool) (l : List Nat) (hl : l = onL (N + i) (fun j => decide (i ≤ j) && (decide (j - i < N) && f (j - i)))) : onL (lenOf M l) (fun j => decide (j + i < lenOf M l) && memOf l (j + i)) = onL N f := by
  refine onL_both _ _ _ _ fun j => ?_
  rw [memOf_len]
  have h1 : memOf l (j + i) = (decide (j < N) && f j) := by rw [hl, shl_list, memOf_shift, memOf_onL]
  rw [h1]
  by_cases h : j < lenOf M l
  · rw [decide_eq_true h, Bool.true_and]
  · have h2 := memOf_len M l (j + i)
    rw [decide_eq_false (show ¬ j + i < lenOf M l by omega), Bool.false_and] at h2
    rw [← h1, ← h2, Bool.and_false]

end Go.Proofs.Ytiaghdnhapiioaa

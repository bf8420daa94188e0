/-
  The contract of GetWord64AtBit, for sets of at most 20001 bits.
-/
import Derived.Test.YtiaghdnhapiioaaPart
namespace Go.Proofs.Ytiaghdnhapiioaa
set_option linter.unusedSimpArgs false
set_option linter.unusedVariables false
open Go.RowKit

/-- The 64 bits from a place on. -/
theorem word_at {ws : List Nat} {n : Nat} {f : Nat → Bool} (h : WordsOk ws n f) (q s t : Nat) (hs : s < 64) (ht : t < 64) :
    (down s (ws.getD q 0) ||| up (64 - s) (ws.getD (q + 1) 0)).testBit t = (decide (64 * q + s + t < n) && f (64 * q + s + t)) := by
  rw [Nat.testBit_or, testBit_down, testBit_up, decide_eq_true ht, Bool.true_and]
  by_cases c : t + s < 64
  · rw [h.testAt q (t + s) c, decide_eq_false (show ¬ 64 - s ≤ t by omega), Bool.false_and, Bool.or_false, show 64 * q + (t + s) = 64 * q + s + t by omega]
  · rw [testBit_big (h.word q) (by omega), Bool.false_or, decide_eq_true (show 64 - s ≤ t by omega), Bool.true_and, h.testAt (q + 1) (t - (64 - s)) (by omega), show 64 * (q + 1) + (t - (64 - s)) = 64 * q + s + t by omega]

end Go.Proofs.Ytiaghdnhapiioaa

/-
  Words whose last one may hold bits past the end, and what masks them; for sets of at most 20000 bits.
-/
import Derived.Test.YtafbdkcbgjpolaaDoorOps
namespace Go.Proofs.YtafbdkcbgjpolaaDoor
set_option linter.unusedSimpArgs false
set_option linter.unusedVariables false
set_option maxRecDepth 100000
open Go.RowKit


theorem shr_ones_fin : ∀ y : Fin 64, 0 < y.1 → (18446744073709551615 : Nat) / 2 ^ (64 - y.1) = 2 ^ y.1 - 1 := by decide
theorem shr_ones (y : Nat) (h0 : 0 < y) (h : y < 64) : (18446744073709551615 : Int) / 2 ^ (64 - y) = ((2 ^ y - 1 : Nat) : Int) := by
  have := shr_ones_fin ⟨y, h⟩ h0
  rw [show (2 : Int) ^ (64 - y) = ((2 ^ (64 - y) : Nat) : Int) by simp, show (18446744073709551615 : Int) = ((18446744073709551615 : Nat) : Int) from rfl, ← Int.natCast_ediv, this]
theorem mask_word (X y : Nat) (hX : X < 2 ^ 64) (h0 : 0 < y) (h : y < 64) : bits .and .u64 (X : Int) (18446744073709551615 / 2 ^ (64 - y)) = ((X % 2 ^ y : Nat) : Int) := by
  rw [shr_ones y h0 h, bits_and_nat _ _ hX (by have := pow_lt y h; omega), Nat.and_two_pow_sub_one_eq_mod]
/-- Words that tell n bits, whatever lies behind. -/
structure Loose (ws : List Nat) (n : Nat) (f : Nat → Bool) : Prop where
  length : ws.length = (n + 63) / 64
  lt : ∀ x ∈ ws, x < 2 ^ 64
  bit : ∀ j, j < n → wbit ws j = f j
theorem WordsOk.loose {ws : List Nat} {n : Nat} {f : Nat → Bool} (h : WordsOk ws n f) : Loose ws n f := ⟨h.length, h.lt, fun j hj => by rw [h.bit, decide_eq_true hj, Bool.true_and]⟩
theorem wbit_out {ws : List Nat} {j : Nat} (h : ws.length ≤ j / 64) : wbit ws j = false := by
  unfold wbit
  rw [List.getD_eq_getElem?_getD, List.getElem?_eq_none h]
  simp
theorem Loose.exact {ws : List Nat} {n : Nat} {f : Nat → Bool} (h : Loose ws n f) (hn : n % 64 = 0) : WordsOk ws n f :=
  ⟨h.length, h.lt, fun j => by
    by_cases hj : j < n
    · rw [h.bit j hj, decide_eq_true hj, Bool.true_and]
    · rw [wbit_out (by have := h.length; omega), decide_eq_false hj, Bool.false_and]⟩
theorem Loose.clean {ws : List Nat} {n : Nat} {f : Nat → Bool} (h : Loose ws n f) (hn : n % 64 ≠ 0) (k : Nat) (hk : k + 1 = ws.length) : WordsOk (ws.set k (ws.getD k 0 % 2 ^ (n % 64))) n f := by
  have hl := h.length
  refine ⟨by rw [List.length_set]; exact hl, fun x hx => ?_, fun j => ?_⟩
  · rcases List.mem_or_eq_of_mem_set hx with h1 | h1
    · exact h.lt x h1
    · rw [h1]; exact Nat.lt_trans (Nat.mod_lt _ (Nat.two_pow_pos _)) (pow_lt _ (by omega))
  · by_cases hjk : j / 64 = k
    · have e : wbit (ws.set k (ws.getD k 0 % 2 ^ (n % 64))) j = (decide (j % 64 < n % 64) && (ws.getD k 0).testBit (j % 64)) := by
        unfold wbit
        rw [hjk, List.getD_eq_getElem?_getD, List.getElem?_set_self (by omega)]
        simp [Nat.testBit_mod_two_pow]
      rw [e]
      by_cases hj : j < n
      · have h1 := h.bit j hj
        unfold wbit at h1
        rw [hjk] at h1
        rw [h1, decide_eq_true hj, decide_eq_true (show j % 64 < n % 64 by omega)]
      · rw [decide_eq_false hj, decide_eq_false (show ¬ j % 64 < n % 64 by omega), Bool.false_and, Bool.false_and]
    · have e : wbit (ws.set k (ws.getD k 0 % 2 ^ (n % 64))) j = wbit ws j := by
        unfold wbit
        simp only [List.getD_eq_getElem?_getD]
        rw [List.getElem?_set_ne (by omega)]
      rw [e]
      by_cases hj : j < n
      · rw [h.bit j hj, decide_eq_true hj, Bool.true_and]
      · rw [wbit_out (by omega), decide_eq_false hj, Bool.false_and]
theorem WordsOk.take {ws : List Nat} {n i M : Nat} {f : Nat → Bool} (h : WordsOk ws n f) (hi : i < n) (hM : M = (i + 1 + 63) / 64) : Loose (ws.take M) (i + 1) f := by
  have hl := h.length
  refine ⟨by rw [List.length_take]; omega, fun x hx => h.lt x (List.mem_of_mem_take hx), fun j hj => ?_⟩
  have e : wbit (ws.take M) j = wbit ws j := by
    unfold wbit
    rw [List.getD_eq_getElem?_getD, List.getD_eq_getElem?_getD, List.getElem?_take_of_lt (by omega)]
  rw [e, h.bit, decide_eq_true (show j < n by omega), Bool.true_and]

end Go.Proofs.YtafbdkcbgjpolaaDoor

/-
  Rows of words moved up; for ShiftLeft. Under no condition.
-/
import Derived.Test.YtiaghdnhapiioaaShR
namespace Go.Proofs.Ytiaghdnhapiioaa
set_option linter.unusedSimpArgs false
set_option linter.unusedVariables false
open Go.RowKit


/-- The word at place q of a set that is moved up by 64 * p + s. -/
def shlW (ws : List Nat) (p s q : Nat) : Nat := if q < p then 0 else up s (ws.getD (q - p) 0) ||| (if q = p then 0 else down (64 - s) (ws.getD (q - p - 1) 0))
theorem shlW_low (ws : List Nat) (p s q : Nat) (h : q < p) : shlW ws p s q = 0 := if_pos h
theorem shlW_at (ws : List Nat) (p s i : Nat) (h : 0 < i) : shlW ws p s (i + p) = up s (ws.getD i 0) ||| down (64 - s) (ws.getD (i - 1) 0) := by
  unfold shlW
  rw [if_neg (by omega), if_neg (by omega), show i + p - p = i by omega]
theorem shlW_first (ws : List Nat) (p s : Nat) : shlW ws p s (0 + p) = up s (ws.getD 0 0) := by
  unfold shlW
  rw [if_neg (by omega), if_pos (by omega), show 0 + p - p = 0 by omega, Nat.or_zero]
theorem shlW_lt {ws : List Nat} (hw : ∀ x ∈ ws, x < 2 ^ 64) (p s q : Nat) : shlW ws p s q < 2 ^ 64 := by
  unfold shlW
  split
  · decide
  · split
    · rw [Nat.or_zero]; exact up_lt _ _
    · exact Nat.or_lt_two_pow (up_lt _ _) (down_lt _ _ (getD_lt hw _))
theorem shlW_bit {ws : List Nat} {n : Nat} {f : Nat → Bool} (h : WordsOk ws n f) (p s q t : Nat) (hs : s < 64) (ht : t < 64) :
    (shlW ws p s q).testBit t = (decide (64 * p + s ≤ 64 * q + t) && (decide (64 * q + t - (64 * p + s) < n) && f (64 * q + t - (64 * p + s)))) := by
  unfold shlW
  by_cases h1 : q < p
  · rw [if_pos h1, decide_eq_false (show ¬ 64 * p + s ≤ 64 * q + t by omega), Nat.zero_testBit, Bool.false_and]
  · rw [if_neg h1, Nat.testBit_or, testBit_up, decide_eq_true ht, Bool.true_and]
    by_cases h2 : s ≤ t
    · rw [decide_eq_true h2, Bool.true_and, h.testAt (q - p) (t - s) (by omega), decide_eq_true (show 64 * p + s ≤ 64 * q + t by omega), Bool.true_and, show 64 * (q - p) + (t - s) = 64 * q + t - (64 * p + s) by omega]
      have : (if q = p then 0 else down (64 - s) (ws.getD (q - p - 1) 0)).testBit t = false := by
        split
        · exact Nat.zero_testBit t
        · rw [testBit_down]; exact testBit_big (h.word _) (by omega)
      rw [this, Bool.or_false]
    · rw [decide_eq_false h2, Bool.false_and, Bool.false_or]
      by_cases h3 : q = p
      · rw [if_pos h3, Nat.zero_testBit, decide_eq_false (show ¬ 64 * p + s ≤ 64 * q + t by omega), Bool.false_and]
      · rw [if_neg h3, testBit_down, h.testAt (q - p - 1) (t + (64 - s)) (by omega), decide_eq_true (show 64 * p + s ≤ 64 * q + t by omega), Bool.true_and, show 64 * (q - p - 1) + (t + (64 - s)) = 64 * q + t - (64 * p + s) by omega]
theorem shlW_zero {ws : List Nat} {n T : Nat} {f : Nat → Bool} (h : WordsOk ws n f) (hT : ∀ j, T < j → j < n → f j = false) (p s q : Nat) (hs : s < 64) (hq : T + (64 * p + s) < 64 * q) : shlW ws p s q = 0 :=
  zero_of_bits (shlW_lt h.lt p s q) fun t ht => by
    rw [shlW_bit h p s q t hs ht]
    by_cases hn : 64 * q + t - (64 * p + s) < n
    · rw [hT _ (by omega) hn, Bool.and_false, Bool.and_false]
    · rw [decide_eq_false hn, Bool.false_and, Bool.and_false]
/-- What the row is at the end. -/
theorem shl_ok {ws D : List Nat} {n n' T : Nat} {f : Nat → Bool} (h : WordsOk ws n f) (hT : ∀ j, T < j → j < n → f j = false) (k p s m : Nat) (hk : k = 64 * p + s) (hs : s < 64) (hD : D.length = m) (hDl : ∀ x ∈ D, x < 2 ^ 64) (hm : m = (n' + 63) / 64) (hn : T + k < n') :
    WordsOk (part (fun _ => true) (shlW ws p s) D) n' (fun j => decide (k ≤ j) && (decide (j - k < n) && f (j - k))) := by
  subst hk
  refine part_ok _ _ _ _ (by omega) hDl (fun q _ _ => shlW_lt h.lt p s q) (fun q t hq ht => ?_)
  rw [if_pos rfl, shlW_bit h p s q t hs ht]
  by_cases hj : 64 * q + t < n'
  · rw [decide_eq_true hj, Bool.true_and]
  · rw [decide_eq_false hj, Bool.false_and]
    by_cases hn2 : 64 * q + t - (64 * p + s) < n
    · rw [hT _ (by omega) hn2, Bool.and_false, Bool.and_false]
    · rw [decide_eq_false hn2, Bool.false_and, Bool.and_false]
/-- The row ahead of the loop: all words past x + p are as they are to be. -/
theorem shl_start (ws D : List Nat) (p s c : Nat) (hD : ∀ q, c ≤ q → q < D.length → D.getD q 0 = 0) (hz : ∀ q, c ≤ q → shlW ws p s q = 0) : D = part (fun q => decide (c ≤ q)) (shlW ws p s) D := by
  apply List.ext_getElem (part_length _ _ _).symm
  intro q h1 h2
  have e := part_getD (fun q => decide (c ≤ q)) (shlW ws p s) D q h1
  rw [getD_in _ _ _ h2] at e
  rw [e]
  by_cases h : c ≤ q
  · rw [if_pos (by simpa using h), hz q h, ← hD q h h1, getD_in _ _ _ h1]
  · rw [if_neg (by simpa using h), getD_in _ _ _ h1]
theorem shl_start2 (ws D : List Nat) (p s c : Nat) (hD : ∀ q, c ≤ q → q < D.length → D.getD q 0 = 0) (hz : ∀ q, c + 1 ≤ q → shlW ws p s q = 0) : D.set c (shlW ws p s c) = part (fun q => decide (c ≤ q)) (shlW ws p s) D := by
  rw [shl_start ws D p s (c + 1) (fun q h => hD q (by omega)) hz]
  rw [part_set (p' := fun q => decide (c ≤ q)) (g' := shlW ws p s) (hx := fun _ => ⟨by simp, rfl⟩) (hp := fun q _ hq => ⟨?_, fun _ => rfl⟩)]
  · rw [← shl_start ws D p s (c + 1) (fun q h => hD q (by omega)) hz]
  · by_cases h : c ≤ q
    · rw [decide_eq_true h, decide_eq_true (show c + 1 ≤ q by omega)]
    · rw [decide_eq_false h, decide_eq_false (show ¬ c + 1 ≤ q by omega)]
theorem shl_step (ws D : List Nat) (p s c : Nat) : (part (fun q => decide (c + 1 ≤ q)) (shlW ws p s) D).set c (shlW ws p s c) = part (fun q => decide (c ≤ q)) (shlW ws p s) D := by
  rw [part_set (p' := fun q => decide (c ≤ q)) (g' := shlW ws p s) (hx := fun _ => ⟨by simp, rfl⟩) (hp := fun q _ hq => ⟨?_, fun _ => rfl⟩)]
  by_cases h : c ≤ q
  · rw [decide_eq_true h, decide_eq_true (show c + 1 ≤ q by omega)]
  · rw [decide_eq_false h, decide_eq_false (show ¬ c + 1 ≤ q by omega)]
/-- The words below the pages are cleared. -/
theorem shl_low (ws D : List Nat) (p s i : Nat) (hi : i < p) : (part (fun q => decide (p ≤ q) || decide (q < i)) (shlW ws p s) D).set i 0 = part (fun q => decide (p ≤ q) || decide (q < i + 1)) (shlW ws p s) D := by
  rw [part_set (p' := fun q => decide (p ≤ q) || decide (q < i + 1)) (g' := shlW ws p s) (hx := fun _ => ⟨by simp, shlW_low ws p s i hi⟩) (hp := fun q _ hq => ⟨?_, fun _ => rfl⟩)]
  by_cases h : q < i
  · rw [decide_eq_true h, decide_eq_true (show q < i + 1 by omega)]
  · rw [decide_eq_false h, decide_eq_false (show ¬ q < i + 1 by omega)]
theorem shl_low0 (ws D : List Nat) (p s : Nat) : part (fun q => decide (p ≤ q)) (shlW ws p s) D = part (fun q => decide (p ≤ q) || decide (q < 0)) (shlW ws p s) D := by
  congr 1; funext q; simp
theorem shl_lowE (ws D : List Nat) (p s : Nat) : part (fun q => decide (p ≤ q) || decide (q < p)) (shlW ws p s) D = part (fun _ => true) (shlW ws p s) D := by
  congr 1; funext q
  by_cases h : p ≤ q
  · rw [decide_eq_true h]; rfl
  · rw [decide_eq_true (show q < p by omega)]; simp
theorem getD_l (a b : List Nat) (j : Nat) (h : j < a.length) : (a ++ b).getD j 0 = a.getD j 0 := by
  rw [List.getD_eq_getElem?_getD, List.getElem?_append_left h, ← List.getD_eq_getElem?_getD]
theorem getD_r (a b : List Nat) (j : Nat) (h : a.length ≤ j) : (a ++ b).getD j 0 = b.getD (j - a.length) 0 := by
  rw [List.getD_eq_getElem?_getD, List.getElem?_append_right h, ← List.getD_eq_getElem?_getD]
theorem shlW_zero_s {ws : List Nat} (hwl : ∀ x ∈ ws, x < 2 ^ 64) (p r : Nat) (hr : p ≤ r) : shlW ws p 0 r = ws.getD (r - p) 0 := by
  unfold shlW
  have u0 : up 0 (ws.getD (r - p) 0) = ws.getD (r - p) 0 := by unfold up; rw [Nat.pow_zero, Nat.mul_one]; exact Nat.mod_eq_of_lt (getD_lt hwl _)
  have d0 : down (64 - 0) (ws.getD (r - p - 1) 0) = 0 := by unfold down; exact Nat.div_eq_of_lt (getD_lt hwl _)
  rw [if_neg (by omega), u0, d0]
  split <;> exact Nat.or_zero _
theorem shl_splice (ws D : List Nat) (p x : Nat) (hwl : ∀ x ∈ ws, x < 2 ^ 64) (hx : x < ws.length) (hp : p + x < D.length) (hw : ∀ q, x < q → ws.getD q 0 = 0) (hD : ∀ q, p + x < q → q < D.length → D.getD q 0 = 0) :
    splice D p (ws.take (x + 1)) = part (fun q => decide (p ≤ q)) (shlW ws p 0) D := by
  have hl : (ws.take (x + 1)).length = x + 1 := by rw [List.length_take]; omega
  have hdp : (D.take p).length = p := by rw [List.length_take]; omega
  apply List.ext_getElem (by rw [part_length, length_splice _ _ _ (by rw [hl]; omega)])
  intro q h1 h2
  rw [part_length] at h2
  have e := part_getD (fun q => decide (p ≤ q)) (shlW ws p 0) D q h2
  rw [getD_in _ _ _ (by rw [part_length]; exact h2)] at e
  rw [e, ← getD_in (splice D p (ws.take (x + 1))) 0 q h1]
  unfold splice
  by_cases hq : p ≤ q
  · rw [if_pos (by simpa using hq), shlW_zero_s hwl p q hq, getD_r _ _ _ (by rw [hdp]; exact hq), hdp]
    by_cases hq2 : q < p + (x + 1)
    · rw [getD_l _ _ _ (by rw [hl]; omega), getD_in _ _ _ (by rw [hl]; omega), List.getElem_take, getD_in _ _ _ (show q - p < ws.length by omega)]
    · rw [getD_r _ _ _ (by rw [hl]; omega), hl, hw (q - p) (by omega)]
      have := hD q (by omega) h2
      rw [getD_in _ _ _ h2] at this
      rw [getD_in _ _ _ (by rw [List.length_drop]; omega), List.getElem_drop]
      rw [← this]; congr 1; omega
  · rw [if_neg (by simpa using hq), getD_l _ _ _ (by rw [hdp]; omega), getD_in _ _ _ (by rw [hdp]; omega), List.getElem_take, getD_in _ _ _ h2]


end Go.Proofs.Ytiaghdnhapiioaa

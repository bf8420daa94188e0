/-
  Two rows of words combined word by word; under no condition.
-/
import Derived.Test.YtiaghdnhapiioaaClean
namespace Go.Proofs.Ytiaghdnhapiioaa
set_option linter.unusedSimpArgs false
set_option linter.unusedVariables false
open Go.RowKit


/-- The first k words are combined, the others are base's. -/
def mix (op : Nat → Nat → Nat) (xs ys base : List Nat) (k : Nat) : List Nat := (List.range base.length).map fun q => if q < k then op (xs.getD q 0) (ys.getD q 0) else base.getD q 0
theorem mix_length (op : Nat → Nat → Nat) (xs ys base : List Nat) (k : Nat) : (mix op xs ys base k).length = base.length := by simp [mix]
theorem mix_getD (op : Nat → Nat → Nat) (xs ys base : List Nat) (k q : Nat) (hq : q < base.length) : (mix op xs ys base k).getD q 0 = if q < k then op (xs.getD q 0) (ys.getD q 0) else base.getD q 0 := by
  unfold mix
  rw [List.getD_eq_getElem?_getD, List.getElem?_map, List.getElem?_range hq]
  rfl
theorem mix_zero (op : Nat → Nat → Nat) (xs ys base : List Nat) : mix op xs ys base 0 = base := by
  apply List.ext_getElem (mix_length _ _ _ _ _)
  intro q h1 h2
  have := mix_getD op xs ys base 0 q h2
  rw [getD_in _ _ _ h1, if_neg (by omega), getD_in _ _ _ h2] at this
  exact this
theorem mix_step (op : Nat → Nat → Nat) (xs ys base : List Nat) (k : Nat) : (mix op xs ys base k).set k (op (xs.getD k 0) (ys.getD k 0)) = mix op xs ys base (k + 1) := by
  apply List.ext_getElem (by rw [List.length_set, mix_length, mix_length])
  intro q h1 h2
  rw [List.length_set, mix_length] at h1
  have e1 := mix_getD op xs ys base k q h1
  have e2 := mix_getD op xs ys base (k + 1) q h1
  rw [getD_in _ _ _ (by rw [mix_length]; exact h1)] at e1 e2
  rw [e2, List.getElem_set]
  by_cases h : k = q
  · subst h; rw [if_pos rfl, if_pos (by omega)]
  · rw [if_neg h, e1]
    by_cases h3 : q < k
    · rw [if_pos h3, if_pos (by omega)]
    · rw [if_neg h3, if_neg (by omega)]
/-- Combined words of rows of n1 and n2 bits, the first k combined where k covers the shorter one. -/
theorem wbit_mix (op : Nat → Nat → Nat) (bop : Bool → Bool → Bool) (hop : ∀ a b t, (op a b).testBit t = bop (a.testBit t) (b.testBit t)) (xs ys base : List Nat) (k j : Nat) (hj : j / 64 < base.length) :
    wbit (mix op xs ys base k) j = if j / 64 < k then bop (wbit xs j) (wbit ys j) else wbit base j := by
  unfold wbit
  rw [mix_getD _ _ _ _ _ _ hj]
  by_cases h : j / 64 < k
  · rw [if_pos h, if_pos h, hop]
  · rw [if_neg h, if_neg h]
theorem wgetD_lt {ws : List Nat} (h : ∀ x ∈ ws, x < 2 ^ 64) (q : Nat) : ws.getD q 0 < 2 ^ 64 := by
  by_cases hq : q < ws.length
  · rw [getD_in _ _ _ hq]; exact h _ (List.getElem_mem _)
  · rw [getD_out _ _ _ (by omega)]; decide
theorem mix_lt (op : Nat → Nat → Nat) (hop : ∀ a b, a < 2 ^ 64 → b < 2 ^ 64 → op a b < 2 ^ 64) {xs ys base : List Nat} (hx : ∀ x ∈ xs, x < 2 ^ 64) (hy : ∀ x ∈ ys, x < 2 ^ 64) (hb : ∀ x ∈ base, x < 2 ^ 64) (k : Nat) : ∀ x ∈ mix op xs ys base k, x < 2 ^ 64 := by
  intro x h
  unfold mix at h
  obtain ⟨q, _, rfl⟩ := List.mem_map.1 h
  split
  · exact hop _ _ (wgetD_lt hx q) (wgetD_lt hy q)
  · exact wgetD_lt hb q
theorem wor_bits (a b t : Nat) : (a ||| b).testBit t = (a.testBit t || b.testBit t) := Nat.testBit_or ..
theorem wand_bits (a b t : Nat) : (a &&& b).testBit t = (a.testBit t && b.testBit t) := Nat.testBit_and ..
theorem wxor_bits (a b t : Nat) : (a ^^^ b).testBit t = (a.testBit t ^^ b.testBit t) := Nat.testBit_xor ..
theorem wandNot_bits (a b t : Nat) : (andNot a b).testBit t = (a.testBit t && !b.testBit t) := testBit_andNot ..
theorem wor_lt (a b : Nat) (ha : a < 2 ^ 64) (hb : b < 2 ^ 64) : a ||| b < 2 ^ 64 := Nat.or_lt_two_pow ha hb
theorem wand_lt (a b : Nat) (_ : a < 2 ^ 64) (hb : b < 2 ^ 64) : a &&& b < 2 ^ 64 := Nat.and_lt_two_pow _ hb
theorem wxor_lt (a b : Nat) (ha : a < 2 ^ 64) (hb : b < 2 ^ 64) : a ^^^ b < 2 ^ 64 := Nat.xor_lt_two_pow ha hb
theorem wandNot_lt (a b : Nat) (ha : a < 2 ^ 64) (_ : b < 2 ^ 64) : andNot a b < 2 ^ 64 := andNot_lt a b ha

end Go.Proofs.Ytiaghdnhapiioaa

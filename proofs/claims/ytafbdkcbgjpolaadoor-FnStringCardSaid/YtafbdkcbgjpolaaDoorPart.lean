/-
  Rows of words of which a part has been worked on; and what shifts and complements are on words as natural numbers. Under no condition.
-/
import Derived.Test.YtafbdkcbgjpolaaDoorClean
namespace Go.Proofs.YtafbdkcbgjpolaaDoor
set_option linter.unusedSimpArgs false
set_option linter.unusedVariables false
set_option maxRecDepth 100000
open Go.RowKit

/-- The words g q at the places p, the old ones elsewhere. -/
def part (p : Nat → Bool) (g : Nat → Nat) (ws : List Nat) : List Nat := (List.range ws.length).map fun q => if p q then g q else ws.getD q 0
theorem part_length (p : Nat → Bool) (g : Nat → Nat) (ws : List Nat) : (part p g ws).length = ws.length := by simp [part]
theorem part_getD (p : Nat → Bool) (g : Nat → Nat) (ws : List Nat) (q : Nat) (hq : q < ws.length) : (part p g ws).getD q 0 = if p q then g q else ws.getD q 0 := by
  unfold part
  rw [List.getD_eq_getElem?_getD, List.getElem?_map, List.getElem?_range hq]
  rfl
theorem part_none (p : Nat → Bool) (g : Nat → Nat) (ws : List Nat) (h : ∀ q, q < ws.length → p q = false) : part p g ws = ws := by
  apply List.ext_getElem (part_length _ _ _)
  intro q h1 h2
  simp only [part, List.getElem_map, List.getElem_range, h q h2]
  simp [h2]
theorem part_set (p p' : Nat → Bool) (g g' : Nat → Nat) (ws : List Nat) (k x : Nat) (hx : k < ws.length → p' k = true ∧ g' k = x) (hp : ∀ q, q < ws.length → q ≠ k → p' q = p q ∧ (p q = true → g' q = g q)) : (part p g ws).set k x = part p' g' ws := by
  apply List.ext_getElem (by rw [List.length_set, part_length, part_length])
  intro q h1 h2
  rw [part_length] at h2
  rw [List.getElem_set]
  simp only [part, List.getElem_map, List.getElem_range]
  by_cases h : k = q
  · subst h
    obtain ⟨e1, e2⟩ := hx h2
    rw [if_pos rfl, e1, if_pos rfl, e2]
  · obtain ⟨e1, e2⟩ := hp q h2 (Ne.symm h)
    rw [if_neg h, e1]
    by_cases h3 : p q = true
    · rw [if_pos h3, if_pos h3, e2 h3]
    · rw [if_neg h3, if_neg h3]
theorem part_lt (p : Nat → Bool) (g : Nat → Nat) {ws : List Nat} (hw : ∀ x ∈ ws, x < 2 ^ 64) (hg : ∀ q, q < ws.length → p q = true → g q < 2 ^ 64) : ∀ x ∈ part p g ws, x < 2 ^ 64 := by
  intro x h
  obtain ⟨q, hq, rfl⟩ := List.mem_map.1 h
  have hq := List.mem_range.1 hq
  split
  · exact hg q hq (by assumption)
  · exact getD_lt hw q
theorem wbit_part (p : Nat → Bool) (g : Nat → Nat) (ws : List Nat) (j : Nat) (hj : j / 64 < ws.length) : wbit (part p g ws) j = if p (j / 64) then (g (j / 64)).testBit (j % 64) else wbit ws j := by
  unfold wbit
  rw [part_getD _ _ _ _ hj]
  split <;> rfl
theorem part_ok {ws : List Nat} (p : Nat → Bool) (g : Nat → Nat) (n : Nat) (f : Nat → Bool) (hl : ws.length = (n + 63) / 64) (hw : ∀ x ∈ ws, x < 2 ^ 64) (hg : ∀ q, q < ws.length → p q = true → g q < 2 ^ 64)
    (hb : ∀ q t, q < ws.length → t < 64 → (if p q then (g q).testBit t else (ws.getD q 0).testBit t) = (decide (64 * q + t < n) && f (64 * q + t))) : WordsOk (part p g ws) n f := by
  refine WordsOk.mk' (by rw [part_length]; exact hl) (fun k => getD_lt (part_lt p g hw hg) k) (fun k t ht hk => ?_)
  rw [part_length] at hk
  rw [part_getD _ _ _ _ hk, ← hb k t hk ht]
  split <;> rfl
theorem part_loose {ws : List Nat} (p : Nat → Bool) (g : Nat → Nat) (n : Nat) (f : Nat → Bool) (hl : ws.length = (n + 63) / 64) (hw : ∀ x ∈ ws, x < 2 ^ 64) (hg : ∀ q, q < ws.length → p q = true → g q < 2 ^ 64)
    (hb : ∀ q t, q < ws.length → t < 64 → 64 * q + t < n → (if p q then (g q).testBit t else (ws.getD q 0).testBit t) = f (64 * q + t)) : Loose (part p g ws) n f := by
  refine ⟨by rw [part_length]; exact hl, part_lt p g hw hg, fun j hj => ?_⟩
  have hq : j / 64 < ws.length := by omega
  rw [wbit_part _ _ _ _ hq]
  have := hb (j / 64) (j % 64) hq (by omega) (by omega)
  rw [show 64 * (j / 64) + j % 64 = j by omega] at this
  exact this

/-! ### shifts -/
/-- A word moved up. -/
def up (k x : Nat) : Nat := (x * 2 ^ k) % 2 ^ 64
/-- A word moved down. -/
def down (k x : Nat) : Nat := x / 2 ^ k
theorem up_lt (k x : Nat) : up k x < 2 ^ 64 := Nat.mod_lt _ (by decide)
theorem down_lt (k x : Nat) (hx : x < 2 ^ 64) : down k x < 2 ^ 64 := Nat.lt_of_le_of_lt (Nat.div_le_self _ _) hx
theorem testBit_up (k x t : Nat) : (up k x).testBit t = (decide (t < 64) && decide (k ≤ t) && x.testBit (t - k)) := by
  unfold up; rw [Nat.testBit_mod_two_pow, Nat.testBit_mul_two_pow, Bool.and_assoc]
theorem testBit_down (k x t : Nat) : (down k x).testBit t = x.testBit (t + k) := by
  unfold down; rw [Nat.testBit_div_two_pow]
theorem wrap_up (k x : Nat) : IntKind.u64.wrap ((x : Int) * 2 ^ k) = ((up k x : Nat) : Int) := by
  rw [show (x : Int) * 2 ^ k = ((x * 2 ^ k : Nat) : Int) by simp, u64_wrap_mod]; rfl
theorem int_down (k x : Nat) : (x : Int) / 2 ^ k = ((down k x : Nat) : Int) := by
  rw [show (2 : Int) ^ k = ((2 ^ k : Nat) : Int) by simp, ← Int.natCast_ediv]; rfl
/-- The other bits of a word. -/
def flipW (x : Nat) : Nat := ones ^^^ x
theorem flipW_lt (x : Nat) (hx : x < 2 ^ 64) : flipW x < 2 ^ 64 := Nat.xor_lt_two_pow ones_lt hx
theorem testBit_flipW (x t : Nat) (ht : t < 64) : (flipW x).testBit t = !x.testBit t := by
  unfold flipW; rw [Nat.testBit_xor, testBit_ones, decide_eq_true ht]; cases x.testBit t <;> rfl
theorem bits_flip (x : Nat) (hx : x < 2 ^ 64) : bits .xor .u64 18446744073709551615 (x : Int) = ((flipW x : Nat) : Int) := bits_xor_nat ones x ones_lt hx
theorem two_pow_sub_testBit (k t : Nat) : (2 ^ k - 1).testBit t = decide (t < k) := Nat.testBit_two_pow_sub_one k t

end Go.Proofs.YtafbdkcbgjpolaaDoor

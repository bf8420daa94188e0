/-
  Masks of a range of bits, word by word. Under no condition.
-/
import Derived.Test.YtiaghdnhapiioaaPart
namespace Go.Proofs.Ytiaghdnhapiioaa
set_option linter.unusedSimpArgs false
set_option linter.unusedVariables false
open Go.RowKit


/-- The bits from place a on, in word q. -/
def loW (a q : Nat) : Nat := if q = a / 64 then up (a % 64) ones else ones
/-- The bits below place e, in word q. -/
def hiW (e q : Nat) : Nat := if q = (e - 1) / 64 then down ((64 - e % 64) % 64) ones else ones
theorem ones_down_lt (k : Nat) : down k ones < 2 ^ 64 := down_lt _ _ ones_lt
theorem loW_lt (a q : Nat) : loW a q < 2 ^ 64 := by unfold loW; split; exact up_lt _ _; exact ones_lt
theorem hiW_lt (e q : Nat) : hiW e q < 2 ^ 64 := by unfold hiW; split; exact ones_down_lt _; exact ones_lt
theorem loW_bit (a q t : Nat) (ht : t < 64) (hq : a / 64 ≤ q) : (loW a q).testBit t = decide (a ≤ 64 * q + t) := by
  unfold loW
  by_cases h : q = a / 64
  · rw [if_pos h, testBit_up, testBit_ones, decide_eq_true ht, Bool.true_and]
    by_cases h2 : a % 64 ≤ t
    · rw [decide_eq_true h2, decide_eq_true (show t - a % 64 < 64 by omega), decide_eq_true (show a ≤ 64 * q + t by omega)]; rfl
    · rw [decide_eq_false h2, decide_eq_false (show ¬ a ≤ 64 * q + t by omega)]; rfl
  · rw [if_neg h, testBit_ones, decide_eq_true ht, decide_eq_true (show a ≤ 64 * q + t by omega)]
theorem hiW_bit (e q t : Nat) (ht : t < 64) (he : 0 < e) (hq : q ≤ (e - 1) / 64) : (hiW e q).testBit t = decide (64 * q + t < e) := by
  unfold hiW
  by_cases h : q = (e - 1) / 64
  · rw [if_pos h, testBit_down, testBit_ones]
    by_cases h2 : 64 * q + t < e
    · rw [decide_eq_true (show t + (64 - e % 64) % 64 < 64 by omega), decide_eq_true h2]
    · rw [decide_eq_false (show ¬ t + (64 - e % 64) % 64 < 64 by omega), decide_eq_false h2]
  · rw [if_neg h, testBit_ones, decide_eq_true ht, decide_eq_true (show 64 * q + t < e by omega)]
/-- Whether word q is touched by the range. -/
def inW (a e q : Nat) : Bool := decide (a / 64 ≤ q) && decide (q ≤ (e - 1) / 64)
/-- The range's word. -/
def rngW (a e q : Nat) : Nat := if inW a e q then loW a q &&& hiW e q else 0
theorem rngW_lt (a e q : Nat) : rngW a e q < 2 ^ 64 := by
  unfold rngW; split
  · exact Nat.and_lt_two_pow _ (hiW_lt _ _)
  · decide
theorem rngW_bit (a e q t : Nat) (ht : t < 64) (hae : a < e) : (rngW a e q).testBit t = (decide (a ≤ 64 * q + t) && decide (64 * q + t < e)) := by
  unfold rngW inW
  by_cases h1 : a / 64 ≤ q
  · by_cases h2 : q ≤ (e - 1) / 64
    · rw [decide_eq_true h1, decide_eq_true h2, Bool.true_and, if_pos rfl, Nat.testBit_and, loW_bit a q t ht h1, hiW_bit e q t ht (by omega) h2]
    · rw [decide_eq_false h2, Bool.and_false, if_neg (by simp), Nat.zero_testBit, decide_eq_false (show ¬ 64 * q + t < e by omega), Bool.and_false]
  · rw [decide_eq_false h1, Bool.false_and, if_neg (by simp), Nat.zero_testBit, decide_eq_false (show ¬ a ≤ 64 * q + t by omega), Bool.false_and]
theorem rngW_mid (a e q : Nat) (h1 : a / 64 < q) (h2 : q < (e - 1) / 64) : rngW a e q = ones := by
  unfold rngW inW loW hiW
  rw [decide_eq_true (show a / 64 ≤ q by omega), decide_eq_true (show q ≤ (e - 1) / 64 by omega), if_neg (show ¬ q = a / 64 by omega), if_neg (show ¬ q = (e - 1) / 64 by omega)]
  exact Nat.and_self _
theorem rngW_one (a e : Nat) (h : a / 64 = (e - 1) / 64) : rngW a e (a / 64) = up (a % 64) ones &&& down ((64 - e % 64) % 64) ones := by
  unfold rngW inW loW hiW
  rw [decide_eq_true (Nat.le_refl _), decide_eq_true (show a / 64 ≤ (e - 1) / 64 by omega), if_pos rfl, if_pos h]; rfl
theorem and_ones (x : Nat) (h : x < 2 ^ 64) : x &&& ones = x := Nat.eq_of_testBit_eq fun t => by
  rw [Nat.testBit_and, testBit_ones]
  by_cases ht : t < 64
  · rw [decide_eq_true ht, Bool.and_true]
  · rw [decide_eq_false ht, Bool.and_false, testBit_big h (by omega)]
theorem ones_and (x : Nat) (h : x < 2 ^ 64) : ones &&& x = x := by rw [Nat.and_comm]; exact and_ones x h
theorem rngW_first (a e : Nat) (h : a / 64 < (e - 1) / 64) : rngW a e (a / 64) = up (a % 64) ones := by
  unfold rngW inW loW hiW
  rw [decide_eq_true (Nat.le_refl _), decide_eq_true (show a / 64 ≤ (e - 1) / 64 by omega), if_pos rfl, if_neg (show ¬ a / 64 = (e - 1) / 64 by omega), if_pos (by rfl)]
  exact and_ones _ (up_lt _ _)
theorem rngW_last (a e : Nat) (h : a / 64 < (e - 1) / 64) : rngW a e ((e - 1) / 64) = down ((64 - e % 64) % 64) ones := by
  unfold rngW inW loW hiW
  rw [decide_eq_true (Nat.le_refl _), decide_eq_true (show a / 64 ≤ (e - 1) / 64 by omega), if_neg (show ¬ (e - 1) / 64 = a / 64 by omega), if_pos rfl, if_pos (by rfl)]
  exact ones_and _ (ones_down_lt _)
theorem or_ones (x : Nat) (h : x < 2 ^ 64) : x ||| ones = ones := Nat.eq_of_testBit_eq fun t => by
  rw [Nat.testBit_or, testBit_ones]
  by_cases ht : t < 64
  · rw [decide_eq_true ht, Bool.or_true]
  · rw [decide_eq_false ht, testBit_big h (by omega)]; rfl
/-- A set with a range set. -/
theorem rng_set_ok {ws : List Nat} {n : Nat} {f : Nat → Bool} (h : WordsOk ws n f) (a e : Nat) (hae : a < e) (hen : e ≤ n) : WordsOk (part (inW a e) (fun q => ws.getD q 0 ||| rngW a e q) ws) n (fun j => (decide (a ≤ j) && decide (j < e)) || f j) := by
  refine part_ok _ _ _ _ h.length h.lt (fun q _ _ => Nat.or_lt_two_pow (h.word q) (rngW_lt _ _ _)) (fun q t hq ht => ?_)
  have hr := rngW_bit a e q t ht hae
  have hw := h.testAt q t ht
  have : (if inW a e q then (ws.getD q 0 ||| rngW a e q).testBit t else (ws.getD q 0).testBit t) = ((ws.getD q 0).testBit t || (rngW a e q).testBit t) := by
    split
    · exact Nat.testBit_or _ _ _
    · rename_i hn
      have : rngW a e q = 0 := by unfold rngW; rw [if_neg hn]
      rw [this, Nat.zero_testBit, Bool.or_false]
  rw [this, hw, hr]
  by_cases hn : 64 * q + t < n
  · rw [decide_eq_true hn, Bool.true_and, Bool.true_and, Bool.or_comm]
  · rw [decide_eq_false hn, decide_eq_false (show ¬ 64 * q + t < e by omega)]; simp
/-- A set with a range flipped. -/
theorem rng_flip_ok {ws : List Nat} {n : Nat} {f : Nat → Bool} (h : WordsOk ws n f) (a e : Nat) (hae : a < e) (hen : e ≤ n) : WordsOk (part (inW a e) (fun q => ws.getD q 0 ^^^ rngW a e q) ws) n (fun j => (decide (a ≤ j) && decide (j < e)) ^^ f j) := by
  refine part_ok _ _ _ _ h.length h.lt (fun q _ _ => Nat.xor_lt_two_pow (h.word q) (rngW_lt _ _ _)) (fun q t hq ht => ?_)
  have hr := rngW_bit a e q t ht hae
  have hw := h.testAt q t ht
  have : (if inW a e q then (ws.getD q 0 ^^^ rngW a e q).testBit t else (ws.getD q 0).testBit t) = ((ws.getD q 0).testBit t ^^ (rngW a e q).testBit t) := by
    split
    · exact Nat.testBit_xor _ _ _
    · rename_i hn
      have : rngW a e q = 0 := by unfold rngW; rw [if_neg hn]
      rw [this, Nat.zero_testBit, Bool.xor_false]
  rw [this, hw, hr]
  by_cases hn : 64 * q + t < n
  · rw [decide_eq_true hn, Bool.true_and, Bool.true_and, Bool.xor_comm]
  · rw [decide_eq_false hn, decide_eq_false (show ¬ 64 * q + t < e by omega)]; simp
/-- The length of a set of n bits behind a change of the range from a to e. -/
def rngN (n a e : Nat) : Nat := if a < e then max n e else n
theorem rngN_in {n a e : Nat} (h : a < e) (h2 : e ≤ n) : rngN n a e = n := by unfold rngN; rw [if_pos h, Nat.max_eq_left h2]
theorem rngN_out {n a e : Nat} (h : a < e) (h2 : n < e) : rngN n a e = e := by unfold rngN; rw [if_pos h, Nat.max_eq_right (by omega)]
theorem rngN_un {n a e : Nat} (h : e ≤ a) : rngN n a e = n := by unfold rngN; rw [if_neg (by omega)]
theorem rngN_le (n a e : Nat) : rngN n a e ≤ max n e := by unfold rngN; split <;> omega
/-- A range's words worked on from the first on, up to word i. -/
theorem rng_start (ws : List Nat) (a e p : Nat) (G : Nat → Nat) (hp : p = a / 64) : ws = part (fun q => inW a e q && decide (q < p)) G ws := (part_none _ _ _ (fun q _ => by
  unfold inW
  by_cases h : a / 64 ≤ q
  · rw [decide_eq_false (show ¬ q < p by omega), Bool.and_false]
  · rw [decide_eq_false h]; rfl)).symm
theorem rng_step (ws : List Nat) (a e i : Nat) (G : Nat → Nat) (h1 : a / 64 ≤ i) (h2 : i ≤ (e - 1) / 64) : (part (fun q => inW a e q && decide (q < i)) G ws).set i (G i) = part (fun q => inW a e q && decide (q < i + 1)) G ws := by
  rw [part_set (p' := fun q => inW a e q && decide (q < i + 1)) (g' := G) (hx := fun _ => ⟨by unfold inW; rw [decide_eq_true h1, decide_eq_true h2, decide_eq_true (show i < i + 1 by omega)]; rfl, rfl⟩) (hp := fun q _ hq => ⟨?_, fun _ => rfl⟩)]
  by_cases h : q < i
  · rw [decide_eq_true h, decide_eq_true (show q < i + 1 by omega)]
  · rw [decide_eq_false h, decide_eq_false (show ¬ q < i + 1 by omega)]
theorem rng_end (ws : List Nat) (a e z : Nat) (G : Nat → Nat) (h : z = (e - 1) / 64) : part (fun q => inW a e q && decide (q < z + 1)) G ws = part (inW a e) G ws := by
  congr 1; funext q
  unfold inW
  by_cases h1 : q ≤ (e - 1) / 64
  · rw [decide_eq_true (show q < z + 1 by omega), Bool.and_true]
  · rw [decide_eq_false h1, Bool.and_false, Bool.false_and]
theorem testBit_xor_ones (x t : Nat) (ht : t < 64) : (ones ^^^ x).testBit t = !x.testBit t := by
  rw [Nat.testBit_xor, testBit_ones, decide_eq_true ht]; cases x.testBit t <;> rfl
/-- The row when a range has been flipped: the bits below a of the first word, all words up to the last one, the bits below e of the last one. -/
theorem flip_ok {ws D : List Nat} {n : Nat} {f : Nat → Bool} (h : WordsOk ws n f) (a e p z : Nat) (hae : a < e) (hen : e ≤ n) (hp : p = a / 64) (hz : z = e / 64)
    (hD : D = ws.set p (ws.getD p 0 ^^^ (ones ^^^ up (a % 64) ones))) (R : List Nat)
    (hR : R = (if e % 64 = 0 then part (fun q => decide (p ≤ q) && decide (q < z)) (fun q => ones ^^^ D.getD q 0) D else
      (part (fun q => decide (p ≤ q) && decide (q < z)) (fun q => ones ^^^ D.getD q 0) D).set z ((part (fun q => decide (p ≤ q) && decide (q < z)) (fun q => ones ^^^ D.getD q 0) D).getD z 0 ^^^ down ((64 - e % 64) % 64) ones))) :
    WordsOk R n (fun j => (decide (a ≤ j) && decide (j < e)) ^^ f j) := by
  have hl := h.length
  have hDl : D.length = ws.length := by rw [hD, List.length_set]
  have hpl : p < ws.length := by omega
  have hDg : ∀ q, D.getD q 0 = if q = p then ws.getD p 0 ^^^ (ones ^^^ up (a % 64) ones) else ws.getD q 0 := fun q => by rw [hD, getD_set _ _ _ _ hpl]
  have hDlt : ∀ q, D.getD q 0 < 2 ^ 64 := fun q => by
    rw [hDg]; split
    · exact Nat.xor_lt_two_pow (h.word p) (Nat.xor_lt_two_pow ones_lt (up_lt _ _))
    · exact h.word q
  obtain ⟨E, hE⟩ : ∃ E, part (fun q => decide (p ≤ q) && decide (q < z)) (fun q => ones ^^^ D.getD q 0) D = E := ⟨_, rfl⟩
  have hEl : E.length = ws.length := by rw [← hE, part_length, hDl]
  have hEg : ∀ q, q < ws.length → E.getD q 0 = if decide (p ≤ q) && decide (q < z) then ones ^^^ D.getD q 0 else D.getD q 0 := fun q hq => by rw [← hE, part_getD _ _ _ _ (by omega)]
  rw [hE] at hR
  have hElt : ∀ q, E.getD q 0 < 2 ^ 64 := fun q => by
    by_cases hq : q < ws.length
    · rw [hEg q hq]; split
      · exact Nat.xor_lt_two_pow ones_lt (hDlt q)
      · exact hDlt q
    · rw [getD_out _ _ _ (by omega)]; decide
  have hRg : ∀ q, q < ws.length → R.getD q 0 = if q = z ∧ e % 64 ≠ 0 then E.getD z 0 ^^^ down ((64 - e % 64) % 64) ones else E.getD q 0 := fun q hq => by
    rw [hR]
    by_cases h0 : e % 64 = 0
    · rw [if_pos h0, if_neg (by omega)]
    · rw [if_neg h0, getD_set _ _ _ _ (by omega)]
      by_cases h1 : q = z
      · rw [if_pos h1, if_pos ⟨h1, h0⟩]
      · rw [if_neg h1, if_neg (fun h => h1 h.1)]
  have hRl : R.length = ws.length := by rw [hR]; split <;> simp [hEl]
  refine WordsOk.mk' (by rw [hRl]; exact hl) (fun q => ?_) (fun q t ht hq => ?_)
  · by_cases hq : q < ws.length
    · rw [hRg q hq]; split
      · exact Nat.xor_lt_two_pow (hElt z) (ones_down_lt _)
      · exact hElt q
    · rw [getD_out _ _ _ (by omega)]; decide
  · rw [hRl] at hq
    have hf := h.testAt q t ht
    rw [hRg q hq]
    have hx : ∀ y : Bool, ((false ^^ y) = y) ∧ ((true ^^ y) = !y) := fun y => by cases y <;> decide
    have key : (if q = z ∧ e % 64 ≠ 0 then E.getD z 0 ^^^ down ((64 - e % 64) % 64) ones else E.getD q 0).testBit t = ((decide (a ≤ 64 * q + t) && decide (64 * q + t < e)) ^^ (ws.getD q 0).testBit t) := by
      have hdn : ∀ t, (down ((64 - e % 64) % 64) ones).testBit t = decide (t + (64 - e % 64) % 64 < 64) := fun t => by rw [testBit_down, testBit_ones]
      have hup : (up (a % 64) ones).testBit t = decide (a % 64 ≤ t) := by
        rw [testBit_up, testBit_ones, decide_eq_true ht, Bool.true_and, decide_eq_true (show t - a % 64 < 64 by omega), Bool.and_true]
      have hDt : (D.getD q 0).testBit t = ((decide (q = p) && decide (t < a % 64)) ^^ (ws.getD q 0).testBit t) := by
        rw [hDg]
        by_cases h1 : q = p
        · subst h1
          rw [if_pos rfl, Nat.testBit_xor, testBit_xor_ones _ _ ht, hup, decide_eq_true rfl, Bool.true_and, Bool.xor_comm]
          congr 1
          by_cases h2 : a % 64 ≤ t
          · rw [decide_eq_true h2, decide_eq_false (show ¬ t < a % 64 by omega)]; rfl
          · rw [decide_eq_false h2, decide_eq_true (show t < a % 64 by omega)]; rfl
        · rw [if_neg h1, decide_eq_false h1, Bool.false_and, (hx _).1]
      have hEt : (E.getD q 0).testBit t = ((decide (p ≤ q) && decide (q < z)) ^^ ((decide (q = p) && decide (t < a % 64)) ^^ (ws.getD q 0).testBit t)) := by
        rw [hEg q hq]
        split
        · rename_i h1
          rw [testBit_xor_ones _ _ ht, hDt, h1, (hx _).2]
        · rename_i h1
          rw [hDt, Bool.eq_false_iff.2 h1, (hx _).1]
      have hfin : ∀ A B C D E X : Bool, (A ^^ (B ^^ C)) = D → (A ^^ (B ^^ (C ^^ X))) = (D ^^ X) := by decide
      split
      · rename_i h1
        obtain ⟨rfl, h2⟩ := h1
        rw [Nat.testBit_xor, hEt, hdn]
        by_cases h3 : t + (64 - e % 64) % 64 < 64 <;> by_cases h4 : q = p <;> by_cases h5 : t < a % 64 <;> by_cases h6 : p ≤ q <;> by_cases h7 : a ≤ 64 * q + t <;> by_cases h8 : 64 * q + t < e <;>
          first
            | (exfalso; omega)
            | ((first | rw [decide_eq_true h4] | rw [decide_eq_false h4]); simp only [h3, h5, h6, h7, h8, decide_true, decide_false, Nat.lt_irrefl, Bool.and_true, Bool.true_and, Bool.and_false, Bool.false_and, Nat.le_refl]; cases (ws.getD q 0).testBit t <;> cases (ws.getD p 0).testBit t <;> simp)
      · rename_i h1
        rw [hEt]
        by_cases h4 : q = p <;> by_cases h5 : t < a % 64 <;> by_cases h6 : p ≤ q <;> by_cases h9 : q < z <;> by_cases h7 : a ≤ 64 * q + t <;> by_cases h8 : 64 * q + t < e <;>
          first
            | (exfalso; omega)
            | ((first | rw [decide_eq_true h4] | rw [decide_eq_false h4]); simp only [h5, h6, h7, h8, h9, decide_true, decide_false, Bool.and_true, Bool.true_and, Bool.and_false, Bool.false_and]; cases (ws.getD q 0).testBit t <;> cases (ws.getD p 0).testBit t <;> simp)
    rw [key, hf]
    by_cases hn : 64 * q + t < n
    · rw [decide_eq_true hn, Bool.true_and, Bool.true_and]
    · rw [decide_eq_false hn, decide_eq_false (show ¬ 64 * q + t < e by omega)]; simp

end Go.Proofs.Ytiaghdnhapiioaa

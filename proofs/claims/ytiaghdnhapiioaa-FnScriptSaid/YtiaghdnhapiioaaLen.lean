/-
  The contract of bits.Len64 (the shelf's walk of the library's own text), and what it tells of a word's greatest bit; under no condition.
-/
import Derived.Test.YtiaghdnhapiioaaLeast
import Derived.Test.YtiaghdnhapiioaaLenW
namespace Go.Proofs.Ytiaghdnhapiioaa
set_option linter.unusedSimpArgs false
set_option linter.unusedVariables false
open Go.RowKit

theorem bitLenAux_spec : ∀ (f x : Nat), x < 2 ^ f → x ≠ 0 → 0 < Lib.bitLenAux f x ∧ 2 ^ (Lib.bitLenAux f x - 1) ≤ x ∧ x < 2 ^ (Lib.bitLenAux f x)
  | 0, x, h, h0 => by simp at h; omega
  | f + 1, x, h, h0 => by
    simp only [Lib.bitLenAux, if_neg h0]
    by_cases hx : x / 2 = 0
    · have : Lib.bitLenAux f (x / 2) = 0 := by rw [hx]; cases f <;> simp [Lib.bitLenAux]
      rw [this]
      refine ⟨by omega, ?_, ?_⟩
      · show 2 ^ 0 ≤ x
        rw [Nat.pow_zero]; omega
      · show x < 2 ^ 1
        rw [Nat.pow_one]; omega
    · obtain ⟨a, b, c⟩ := bitLenAux_spec f (x / 2) (by rw [Nat.pow_succ] at h; omega) hx
      generalize Lib.bitLenAux f (x / 2) = k at *
      refine ⟨by omega, ?_, ?_⟩
      · rw [show 1 + k - 1 = (k - 1) + 1 by omega, Nat.pow_succ]; omega
      · rw [Nat.add_comm, Nat.pow_succ]; omega
theorem top_bit (x : Nat) (hx : x < 2 ^ 64) (h0 : x ≠ 0) : 1 ≤ Lib.bitLen x ∧ Lib.bitLen x ≤ 64 ∧ x.testBit (Lib.bitLen x - 1) = true ∧ ∀ j, Lib.bitLen x ≤ j → x.testBit j = false := by
  have h := bitLenAux_spec 64 x hx h0
  obtain ⟨a, b, c⟩ := h
  have hle := Lib.bitLen_le x 64 (Nat.le_refl _) hx
  change 0 < Lib.bitLen x at a
  change 2 ^ (Lib.bitLen x - 1) ≤ x at b
  change x < 2 ^ (Lib.bitLen x) at c
  refine ⟨a, hle, ?_, fun j hj => Nat.testBit_lt_two_pow (Nat.lt_of_lt_of_le c (Nat.pow_le_pow_right (by decide) hj))⟩
  rw [Nat.testBit_eq_decide_div_mod_eq]
  generalize hk : Lib.bitLen x - 1 = k at *
  rw [show Lib.bitLen x = k + 1 by omega, Nat.pow_succ] at c
  have : x / 2 ^ k = 1 := by
    refine Nat.div_eq_of_lt_le ?_ ?_
    · omega
    · omega
  rw [this]; rfl

/-- The greatest place below N told by the greatest word that is not zero. -/
theorem lst_of (F : Nat → Bool) (N T : Nat) (h1 : T < N) (h2 : F T = true) (h3 : ∀ j, T < j → j < N → F j = false) : lst F N = T + 1 := by
  have a := lst_le F N
  rcases Nat.lt_trichotomy (lst F N) (T + 1) with h | h | h
  · have := lst_out F N T (by omega) h1
    rw [h2] at this; cases this
  · exact h
  · have := lst_top F N (by omega)
    rw [h3 _ (by omega) (by omega)] at this; cases this
theorem lst_nil (F : Nat → Bool) (N : Nat) (h : ∀ j, j < N → F j = false) : lst F N = 0 := by
  rcases Nat.eq_zero_or_pos (lst F N) with h0 | h0
  · exact h0
  · have a := lst_le F N
    have := lst_top F N h0
    rw [h _ (by omega)] at this; cases this
theorem lst_word (F : Nat → Bool) (N q X : Nat) (hX : X < 2 ^ 64) (h0 : X ≠ 0) (hb : ∀ t, t < 64 → X.testBit t = (decide (64 * q + t < N) && F (64 * q + t))) (hup : ∀ j, 64 * q + 64 ≤ j → j < N → F j = false) :
    lst F N = 64 * q + Lib.bitLen X ∧ 1 ≤ Lib.bitLen X ∧ Lib.bitLen X ≤ 64 := by
  obtain ⟨a, b, c, d⟩ := top_bit X hX h0
  refine ⟨?_, a, b⟩
  have e := hb (Lib.bitLen X - 1) (by omega)
  rw [c] at e
  have e1 : 64 * q + (Lib.bitLen X - 1) < N ∧ F (64 * q + (Lib.bitLen X - 1)) = true := by
    cases h : decide (64 * q + (Lib.bitLen X - 1) < N) with
    | true => rw [h, Bool.true_and] at e; exact ⟨of_decide_eq_true h, e.symm⟩
    | false => rw [h] at e; cases e
  rw [lst_of F N (64 * q + (Lib.bitLen X - 1)) e1.1 e1.2 (fun j h1 h2 => ?_)]
  · omega
  · by_cases h3 : 64 * q + 64 ≤ j
    · exact hup j h3 h2
    · have e2 := hb (j - 64 * q) (by omega)
      rw [d (j - 64 * q) (by omega), show 64 * q + (j - 64 * q) = j by omega, decide_eq_true h2, Bool.true_and] at e2
      exact e2.symm
theorem zero_word (F : Nat → Bool) (N q X : Nat) (h0 : X = 0) (hb : ∀ t, t < 64 → X.testBit t = (decide (64 * q + t < N) && F (64 * q + t))) (hup : ∀ j, 64 * q + 64 ≤ j → j < N → F j = false) :
    ∀ j, 64 * q ≤ j → j < N → F j = false := by
  intro j h1 h2
  by_cases h3 : 64 * q + 64 ≤ j
  · exact hup j h3 h2
  · have e2 := hb (j - 64 * q) (by omega)
    rw [h0, Nat.zero_testBit, show 64 * q + (j - 64 * q) = j by omega, decide_eq_true h2, Bool.true_and] at e2
    exact e2.symm

/-- A place that is told as one more, or that there is none. -/
def topV (k : Nat) : Array Value := if k = 0 then #[.int .u64 0, .bool false] else #[.int .u64 (k - 1 : Nat), .bool true]
theorem topV_zero : topV 0 = #[.int .u64 0, .bool false] := rfl
theorem topV_pos {k : Nat} (h : k ≠ 0) : topV k = #[.int .u64 (k - 1 : Nat), .bool true] := if_neg h
def topI (k : Nat) : Array Value := if k = 0 then #[.int .i64 0, .bool false] else #[.int .i64 (k - 1 : Nat), .bool true]
theorem topI_zero : topI 0 = #[.int .i64 0, .bool false] := rfl
theorem topI_pos (k : Nat) : topI (k + 1) = #[.int .i64 (k : Nat), .bool true] := rfl
theorem len64_c (X : Nat) (w : World) (h : X < 2 ^ 64) :
    Calls Try.prog 75 #[.int .u64 X] w fun e w' => e = .returned (.int .i64 (Lib.bitLen X : Nat)) ∧ w' = w := by
  have := len64_int (X : Int) w (by omega) (by omega)
  rwa [Int.toNat_natCast] at this

end Go.Proofs.Ytiaghdnhapiioaa

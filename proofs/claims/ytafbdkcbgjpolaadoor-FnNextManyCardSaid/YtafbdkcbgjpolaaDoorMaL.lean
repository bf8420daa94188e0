/-
  A word, at any base, of which the bits below place p are struck. Under no condition.
-/
import Derived.Test.YtafbdkcbgjpolaaDoorAsS
import Derived.Test.YtafbdkcbgjpolaaDoorPart
namespace Go.Proofs.YtafbdkcbgjpolaaDoor
set_option linter.unusedSimpArgs false
set_option linter.unusedVariables false
set_option maxRecDepth 100000
open Go.RowKit

def WordB (ff : Nat → Bool) (B e p Y : Nat) : Prop := Y < 2 ^ 64 ∧ B ≤ p ∧ p ≤ e ∧ e ≤ B + 64 ∧ ∀ t, t < 64 → Y.testBit t = (decide (p ≤ B + t) && (decide (B + t < e) && ff (B + t)))
theorem WordB.zero {ff : Nat → Bool} {B e p Y : Nat} (h : WordB ff B e p Y) (h0 : Y = 0) : onL e ff = onL p ff := by
  obtain ⟨_, h1, h2, h4, h3⟩ := h
  refine (onL_ext p e ff ff h2 (fun _ _ => rfl) fun j h6 h5 => ?_).symm
  have := h3 (j - B) (by omega)
  rw [h0, Nat.zero_testBit, show B + (j - B) = j by omega, decide_eq_true h6, decide_eq_true h5, Bool.true_and, Bool.true_and] at this
  exact this.symm
theorem WordB.next {ff : Nat → Bool} {B e p Y : Nat} (h : WordB ff B e p Y) (h0 : Y ≠ 0) : Lib.ctz 64 Y < 64 ∧ p ≤ B + Lib.ctz 64 Y ∧ B + Lib.ctz 64 Y < e ∧ onL (B + Lib.ctz 64 Y + 1) ff = onL p ff ++ [B + Lib.ctz 64 Y] ∧ WordB ff B e (B + Lib.ctz 64 Y + 1) (Y &&& (Y - 1)) := by
  obtain ⟨hY, h1, h2, h7, h3⟩ := h
  obtain ⟨k1, k2, k3⟩ := ctz_bits Y hY h0
  have hst := strike Y hY h0
  generalize Lib.ctz 64 Y = c at *
  have hc := h3 c k1
  rw [k2] at hc
  obtain ⟨g1, g2⟩ := Bool.and_eq_true_iff.1 hc.symm
  obtain ⟨g3, g2⟩ := Bool.and_eq_true_iff.1 g2
  have g1 := of_decide_eq_true g1
  have g3 := of_decide_eq_true g3
  refine ⟨k1, g1, g3, ?_, strike_lt Y hY, by omega, by omega, h7, fun t ht => ?_⟩
  · rw [onL_yes g2]
    congr 1
    refine (onL_ext p (B + c) ff ff g1 (fun _ _ => rfl) fun j h4 h5 => ?_).symm
    have := h3 (j - B) (by omega)
    rw [k3 _ (by omega), show B + (j - B) = j by omega, decide_eq_true h4, decide_eq_true (show j < e by omega), Bool.true_and, Bool.true_and] at this
    exact this.symm
  · rw [hst t, h3 t ht]
    by_cases e : t = c
    · subst e; rw [decide_eq_false (show ¬ B + t + 1 ≤ B + t by omega)]; simp
    · rw [beq_eq_false_iff_ne.2 e]
      by_cases h4 : B + c + 1 ≤ B + t
      · rw [decide_eq_true h4, decide_eq_true (show p ≤ B + t by omega)]; simp
      · rw [decide_eq_false h4]
        have h5 := h3 t ht
        rw [k3 t (by omega)] at h5
        rw [← h5]; rfl
/-- The bits from i on, of a set. -/
def fromF (i n : Nat) (f : Nat → Bool) : Nat → Bool := fun j => decide (i ≤ j) && (decide (j < n) && f j)
theorem WordB.first {ws : List Nat} {n : Nat} {f : Nat → Bool} (h : WordsOk ws n f) (i : Nat) : WordB (fromF i n f) i (64 * (i / 64 + 1)) i (down (i % 64) (ws.getD (i / 64) 0)) :=
  ⟨down_lt _ _ (h.word _), Nat.le_refl _, by omega, by omega, fun t ht => by
    rw [testBit_down, decide_eq_true (show i ≤ i + t by omega), Bool.true_and]
    by_cases c : t + i % 64 < 64
    · rw [h.testAt _ _ c, decide_eq_true (show i + t < 64 * (i / 64 + 1) by omega), show 64 * (i / 64) + (t + i % 64) = i + t by omega]
      simp [fromF]
    · rw [testBit_big (h.word _) (by omega), decide_eq_false (show ¬ i + t < 64 * (i / 64 + 1) by omega), Bool.false_and]⟩
theorem WordB.later {ws : List Nat} {n : Nat} {f : Nat → Bool} (h : WordsOk ws n f) (i x : Nat) (hx : i ≤ 64 * x) : WordB (fromF i n f) (64 * x) (64 * (x + 1)) (64 * x) (ws.getD x 0) :=
  ⟨h.word x, Nat.le_refl _, by omega, by omega, fun t ht => by
    rw [h.testAt x t ht, decide_eq_true (show 64 * x ≤ 64 * x + t by omega), decide_eq_true (show 64 * x + t < 64 * (x + 1) by omega)]
    unfold fromF
    rw [decide_eq_true (show i ≤ 64 * x + t by omega)]; simp⟩
theorem fromF_none (i n m : Nat) (f : Nat → Bool) (h : m ≤ i) : onL m (fromF i n f) = [] := by
  rw [show ([] : List Nat) = onL 0 (fromF i n f) from rfl]
  exact (onL_ext 0 m _ _ (Nat.zero_le _) (fun _ _ => rfl) fun j _ h2 => by unfold fromF; rw [decide_eq_false (show ¬ i ≤ j by omega)]; rfl).symm
theorem fromF_end (i n m : Nat) (f : Nat → Bool) (h : n ≤ m) : onL m (fromF i n f) = onL n (fromF i n f) :=
  (onL_ext n m _ _ h (fun _ _ => rfl) fun j h1 _ => by unfold fromF; rw [decide_eq_false (show ¬ j < n by omega)]; simp).symm
theorem take_full (M p : Nat) (ff : Nat → Bool) (room : Nat) (hp : p ≤ M) (h : (onL p ff).length = room) : (onL M ff).take room = onL p ff := by
  obtain ⟨r, hr⟩ : ∃ r, onL M ff = onL p ff ++ r := by
    clear h
    induction M with
    | zero => obtain rfl : p = 0 := by omega
              exact ⟨[], by simp⟩
    | succ M ih =>
      by_cases e : p = M + 1
      · exact ⟨[], by rw [e]; simp⟩
      · obtain ⟨r, hr⟩ := ih (by omega)
        cases hf : ff M with
        | true => exact ⟨r ++ [M], by rw [onL_yes hf, hr, List.append_assoc]⟩
        | false => exact ⟨r, by rw [onL_no hf, hr]⟩
  rw [hr, ← h, List.take_left']
  rfl

end Go.Proofs.YtafbdkcbgjpolaaDoor

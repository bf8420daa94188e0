/-
  The contract of ShiftLeft, for every place up to 2500; for sets of at most 20000 bits.
-/
import Derived.Test.YtiaghdnhapiioaaShLA
import Derived.Test.YtiaghdnhapiioaaShLB
namespace Go.Proofs.Ytiaghdnhapiioaa
set_option linter.unusedSimpArgs false
set_option linter.unusedVariables false
open Go.RowKit

set_option maxHeartbeats 1000000 in
set_option maxRecDepth 100000 in
theorem shiftLeft_c (b g n k : Nat) (f : Nat → Bool) (w : World) (h : BSet w b g n f) (hn : n ≤ 20000) (hk : k ≤ 2500) :
    Calls Try.prog 47 #[.pointer (some ⟨b, 0, none⟩), .int .u64 k] w fun e w' => e = .returned (.tuple #[]) ∧ ∃ g' n', BSet w' b g' n' (fun j => decide (k ≤ j) && (decide (j - k < n) && f (j - k))) ∧ n ≤ n' ∧ n' ≤ max n (lst f n + k) ∧ (∀ j, n' ≤ j → (fun j => decide (k ≤ j) && (decide (j - k < n) && f (j - k))) j = false) ∧ (g' = g ∨ w.heap.size ≤ g') ∧ Kept [b, g] w w' := by
  have hn1 : n ≤ 20001 := by omega
  by_cases hk0 : k = 0
  · subst hk0
    have h' := h.congr (f' := fun j => decide (0 ≤ j) && (decide (j - 0 < n) && f (j - 0))) (fun j hj => by simp [hj])
    have hz : ∀ j, n ≤ j → (fun j => decide (0 ≤ j) && (decide (j - 0 < n) && f (j - 0))) j = false := fun j hj => by
      show (decide (0 ≤ j) && (decide (j - 0 < n) && f (j - 0))) = false
      rw [decide_eq_false (show ¬ j - 0 < n by omega), Bool.false_and, Bool.and_false]
    have HZ := Lib.hid hz; clear h hz
    go_enter Try.func47, Try.ntmps47
    go_wp2_with (go_at_call 64; refine (panicIfNull_c _ _).mono ?_; rintro e w' ⟨rfl, rfl⟩)
    refine bodyPost_ret (results_none (h := rfl) ..) rfl ?_
    exact ⟨rfl, g, n, h', by omega, by omega, HZ.out, .inl rfl, Kept.refl _ _⟩
  · have e0 : ¬ (k : Int) = 0 := by omega
    have hz1 : ∀ n' T, lst f n = T → (∀ j, n' ≤ j → k ≤ j → j - k < n → T ≤ j - k) → ∀ j, n' ≤ j → (fun j => decide (k ≤ j) && (decide (j - k < n) && f (j - k))) j = false := fun n' T hT hj j h1 => by
      show (decide (k ≤ j) && (decide (j - k < n) && f (j - k))) = false
      by_cases h2 : k ≤ j
      · by_cases h3 : j - k < n
        · rw [lst_out f n (j - k) (by have := hj j h1 h2 h3; omega) h3, Bool.and_false, Bool.and_false]
        · rw [decide_eq_false h3, Bool.false_and, Bool.and_false]
      · rw [decide_eq_false h2, Bool.false_and]
    rcases hq : lst f n with _ | T
    · have hz := hz1 0 0 hq (fun j _ _ _ => Nat.zero_le _)
      have h' := h.congr (f' := (fun j => decide (k ≤ j) && (decide (j - k < n) && f (j - k)))) (fun j hj => by
        rw [lst_out f n j (by omega) hj]; exact (hz j (Nat.zero_le _)).symm)
      have HQ := Lib.hid hq; have HZ := Lib.hid hz; clear hq hz hz1
      go_enter Try.func47, Try.ntmps47
      go_wp2_with (go_at_call 64; refine (panicIfNull_c _ _).mono ?_; rintro e w' ⟨rfl, rfl⟩)
      refine (btop_c b g n f w h hn1).mono ?_
      rintro e wt ⟨rfl, hwt⟩
      subst wt
      rw [HQ.out, topV_zero]
      go_wp2_with fail
      refine bodyPost_ret (results_none (h := rfl) ..) rfl ?_
      exact ⟨rfl, g, n, h', by omega, by omega, fun j _ => HZ.out j (Nat.zero_le _), .inl rfl, Kept.refl _ _⟩
    · have fin : ∀ (e : Ending) (w' : World), (e = .returned (.tuple #[]) ∧ ∃ g' n', BSet w' b g' n' (fun j => decide (k ≤ j) && (decide (j - k < n) && f (j - k))) ∧ n ≤ n' ∧ n' ≤ max n (T + k + 1) ∧ T + k < n' ∧ (g' = g ∨ w.heap.size ≤ g') ∧ Kept [b, g] w w') → (e = .returned (.tuple #[]) ∧ ∃ g' n', BSet w' b g' n' (fun j => decide (k ≤ j) && (decide (j - k < n) && f (j - k))) ∧ n ≤ n' ∧ n' ≤ max n (T + 1 + k) ∧ (∀ j, n' ≤ j → (fun j => decide (k ≤ j) && (decide (j - k < n) && f (j - k))) j = false) ∧ (g' = g ∨ w.heap.size ≤ g') ∧ Kept [b, g] w w') := by
        rintro e w' ⟨he, g', n', q1, q2, q3, q4, q5, q6⟩
        exact ⟨he, g', n', q1, q2, by omega, hz1 n' (T + 1) hq (fun j h1 h2 h3 => by omega), q5, q6⟩
      by_cases hcase : (n + 63) / 64 < (T + k) / 64 + 1
      · exact (shiftLeftA_c b g n k T f w h hn hk hk0 hq hcase).mono fin
      · by_cases hgrow : n ≤ T + k
        · exact (shiftLeftB1_c b g n k T f w h hn hk hk0 hq (by omega) hgrow).mono fin
        · exact (shiftLeftB2_c b g n k T f w h hn hk hk0 hq (by omega) (by omega)).mono fin

end Go.Proofs.Ytiaghdnhapiioaa

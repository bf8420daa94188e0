/-
  The contract of ShiftRight, for every place up to 2500; for sets of at most 20000 bits.
-/
import Derived.Test.YtiaghdnhapiioaaShR
namespace Go.Proofs.Ytiaghdnhapiioaa
set_option linter.unusedSimpArgs false
set_option linter.unusedVariables false
open Go.RowKit

set_option maxHeartbeats 1000000 in
theorem shiftRight_c (b g n k : Nat) (f : Nat → Bool) (w : World) (h : BSet w b g n f) (hn : n ≤ 20000) (hk : k ≤ 2500) :
    Calls Try.prog 48 #[.pointer (some ⟨b, 0, none⟩), .int .u64 k] w fun e w' => e = .returned (.tuple #[]) ∧ BSet w' b g n (fun j => decide (j + k < n) && f (j + k)) ∧ Kept [b, g] w w' := by
  have hn1 : n ≤ 20001 := by omega
  by_cases hk0 : k = 0
  · subst hk0
    have h' := h.congr (f' := fun j => decide (j + 0 < n) && f (j + 0)) (fun j hj => by simp [hj])
    clear h
    go_enter Try.func48, Try.ntmps48
    go_wp2_with (go_at_call 64; refine (panicIfNull_c _ _).mono ?_; rintro e w' ⟨rfl, rfl⟩)
    refine bodyPost_ret (results_none (h := rfl) ..) rfl ?_
    exact ⟨rfl, h', Kept.refl _ _⟩
  · have e0 : ¬ (k : Int) = 0 := by omega
    rcases hq : lst f n with _ | T
    · have h' := h.congr (f' := fun j => decide (j + k < n) && f (j + k)) (fun j hj => by
        rw [lst_out f n j (by omega) hj]
        by_cases h2 : j + k < n
        · rw [lst_out f n (j + k) (by omega) h2, Bool.and_false]
        · rw [decide_eq_false h2, Bool.false_and])
      have HQ := Lib.hid hq; clear hq
      go_enter Try.func48, Try.ntmps48
      go_wp2_with (go_at_call 64; refine (panicIfNull_c _ _).mono ?_; rintro e w' ⟨rfl, rfl⟩)
      refine (btop_c b g n f w h hn1).mono ?_
      rintro e wt ⟨rfl, hwt⟩
      subst wt
      rw [HQ.out, topV_zero]
      go_wp2_with fail
      refine bodyPost_ret (results_none (h := rfl) ..) rfl ?_
      exact ⟨rfl, h', Kept.refl _ _⟩
    · by_cases hkT : k ≤ T
      · exact shiftRightMain_c b g n k T f w h hn hk hk0 hq hkT
      · have e1 : (T : Int) < (k : Int) := by omega
        have hz : ∀ j, j < n → (fun _ => false) j = (decide (j + k < n) && f (j + k)) := fun j hj => by
          by_cases h2 : j + k < n
          · rw [lst_out f n (j + k) (by omega) h2, Bool.and_false]
          · rw [decide_eq_false h2, Bool.false_and]
        have HQ := Lib.hid hq; have HZ := Lib.hid hz; clear hq hz
        go_enter Try.func48, Try.ntmps48
        go_wp2_with (go_at_call 64; refine (panicIfNull_c _ _).mono ?_; rintro e w' ⟨rfl, rfl⟩)
        refine (btop_c b g n f w h hn1).mono ?_
        rintro e wt ⟨rfl, hwt⟩
        subst wt
        rw [HQ.out, topV_succ]
        go_wp2_with fail
        refine (clearAll_c b g n f _ h hn).mono ?_
        rintro e w2 ⟨rfl, h2, k2⟩
        go_wp2_with fail
        refine bodyPost_ret (results_none (h := rfl) ..) rfl ?_
        exact ⟨rfl, h2.congr HZ.out, k2⟩

end Go.Proofs.Ytiaghdnhapiioaa

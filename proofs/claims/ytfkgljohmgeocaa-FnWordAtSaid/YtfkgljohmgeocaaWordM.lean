/-
  The contract of GetWord64AtBit, for sets of at most 20001 bits.
-/
import Derived.Test.YtfkgljohmgeocaaPart
namespace Go.Proofs.Ytfkgljohmgeocaa
set_option linter.unusedSimpArgs false
set_option linter.unusedVariables false
open Go.RowKit

/-- The 64 bits from a place on. -/
theorem word_at {ws : List Nat} {n : Nat} {f : Nat → Bool} (h : WordsOk ws n f) (q s t : Nat) (hs : s < 64) (ht : t < 64) :
    (down s (ws.getD q 0) ||| up (64 - s) (ws.getD (q + 1) 0)).testBit t = (decide (64 * q + s + t < n) && f (64 * q + s + t)) := by
  rw [Nat.testBit_or, testBit_down, testBit_up, decide_eq_true ht, Bool.true_and]
  by_cases c : t + s < 64
  · rw [h.testAt q (t + s) c, decide_eq_false (show ¬ 64 - s ≤ t by omega), Bool.false_and, Bool.or_false, show 64 * q + (t + s) = 64 * q + s + t by omega]
  · rw [testBit_big (h.word q) (by omega), Bool.false_or, decide_eq_true (show 64 - s ≤ t by omega), Bool.true_and, h.testAt (q + 1) (t - (64 - s)) (by omega), show 64 * (q + 1) + (t - (64 - s)) = 64 * q + s + t by omega]

set_option maxHeartbeats 1000000 in
theorem wordAt_c (b g n i : Nat) (f : Nat → Bool) (w : World) (h : BSet w b g n f) (hn : n ≤ 20001) (hi : i < n) :
    Calls Try.prog 46 #[.pointer (some ⟨b, 0, none⟩), .int .u64 i] w fun e w' => ∃ W : Nat, e = .returned (.int .u64 W) ∧ Kept [] w w' ∧ W < 2 ^ 64 ∧ ∀ t, t < 64 → W.testBit t = (decide (i + t < n) && f (i + t)) := by
  obtain ⟨hne, cap, ws, hh, hr, hw⟩ := h
  have hl := hw.length
  have hc1 := hh.c1
  have hfin := word_at hw (i / 64) (i % 64)
  obtain ⟨q, hq⟩ : ∃ q, i / 64 = q := ⟨_, rfl⟩
  obtain ⟨s, hs⟩ : ∃ s, i % 64 = s := ⟨_, rfl⟩
  obtain ⟨m, hm⟩ : ∃ m, ws.length = m := ⟨_, rfl⟩
  rw [hq, hs] at hfin
  rw [hm] at hc1 hl
  have hqm : q < m := by omega
  have hm4 : m ≤ 400 := by omega
  have hs64 : s < 64 := by omega
  have hX := hr.cell q (by omega)
  have hXl := hw.word q
  have hYl := hw.word (q + 1)
  have e1 : (i : Int) / 64 = (q : Int) := by omega
  have hi1 : (i : Int) = 64 * q + s := by omega
  have HI := Lib.hid hi1
  have HS := Lib.hid hs
  have hfin' : ∀ t, t < 64 → (down s (ws.getD q 0) ||| up (64 - s) (ws.getD (q + 1) 0)).testBit t = (decide (i + t < n) && f (i + t)) := fun t ht => by rw [hfin t hs64 ht, show 64 * q + s + t = i + t by omega]
  have F := Lib.hid hfin'
  clear hi1 hs hfin hfin' hl
  by_cases hq1 : q + 1 < m
  · have hY := hr.cell (q + 1) (by omega)
    generalize ws.getD q 0 = X at *
    generalize ws.getD (q + 1) 0 = Y at *
    have HM := Lib.hid hm; clear hm hq hr
    go_enter Try.func46, Try.ntmps46
    go_wp2_with (go_at_call 64; refine (wordsIndex_c i (by omega) _).mono ?_; rintro e w' ⟨rfl, rfl⟩; rw [HS.out])
    rw [int_down, wrap_up, bits_or_nat _ _ (down_lt _ _ hXl) (up_lt _ _)]
    go_ret
    exact ⟨_, rfl, Kept.refl _ _, Nat.or_lt_two_pow (down_lt _ _ hXl) (up_lt _ _), F.out⟩
  · have hY0 : ws.getD (q + 1) 0 = 0 := getD_out _ _ _ (by omega)
    have hY1 : up (64 - s) 0 = 0 := by unfold up; simp
    rw [hY0, hY1, Nat.or_zero] at F
    generalize ws.getD q 0 = X at *
    have HM := Lib.hid hm; clear hm hq hr hY0 hY1
    have hz : bits .or .u64 ((down s X : Nat) : Int) 0 = ((down s X : Nat) : Int) := by
      have := bits_or_nat (down s X) 0 (down_lt _ _ hXl) (by decide)
      rw [Nat.or_zero] at this; exact this
    have HZ := Lib.hid hz; clear hz
    go_enter Try.func46, Try.ntmps46
    go_wp2_with (go_at_call 64; refine (wordsIndex_c i (by omega) _).mono ?_; rintro e w' ⟨rfl, rfl⟩; rw [HS.out])
    rw [int_down, HZ.out]
    go_ret
    exact ⟨_, rfl, Kept.refl _ _, down_lt _ _ hXl, F.out⟩

end Go.Proofs.Ytfkgljohmgeocaa

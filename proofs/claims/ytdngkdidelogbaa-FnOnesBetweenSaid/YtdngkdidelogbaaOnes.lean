/-
  The contract of OnesBetween, for sets of at most 20001 bits.
-/
import Derived.Test.YtdngkdidelogbaaCntOn
namespace Go.Proofs.Ytdngkdidelogbaa
set_option linter.unusedSimpArgs false
set_option linter.unusedVariables false
open Go.RowKit


theorem ones_one {ws : List Nat} {n : Nat} {f : Nat → Bool} (h : WordsOk ws n f) (a z s so eo : Nat) (ha : a = 64 * s + so) (hz : z = 64 * s + eo) (hso : so < 64) (heo : eo < 64) (hzn : z ≤ n) :
    pop (ws.getD s 0 &&& andNot (2 ^ eo - 1) (2 ^ so - 1)) = (onL z (fun j => decide (a ≤ j) && f j)).length := by
  subst ha hz
  rw [pop_part _ eo (fun t => decide (64 * s + so ≤ 64 * s + t) && f (64 * s + t)) (by omega) (fun t ht => ?_), onL_len_add, onL_none (64 * s) _ (fun j hj => by rw [decide_eq_false (by omega)]; rfl)]
  · simp
  · rw [Nat.testBit_and, testBit_andNot, two_pow_sub_testBit, two_pow_sub_testBit, h.testAt s t ht]
    by_cases h1 : t < eo
    · rw [decide_eq_true h1, decide_eq_true (show 64 * s + t < n by omega)]
      by_cases h2 : t < so
      · rw [decide_eq_true h2, decide_eq_false (show ¬ 64 * s + so ≤ 64 * s + t by omega)]; simp
      · rw [decide_eq_false h2, decide_eq_true (show 64 * s + so ≤ 64 * s + t by omega)]; simp
    · rw [decide_eq_false h1]; simp
theorem ones_more {ws : List Nat} {n : Nat} {f : Nat → Bool} (h : WordsOk ws n f) (a z s so r eo : Nat) (ha : a = 64 * s + so) (hz : z = 64 * (s + 1) + 64 * r + eo) (hso : so < 64) (heo : eo < 64) (hzn : z ≤ n) :
    pop (ws.getD s 0 &&& flipW (2 ^ so - 1)) + sumN (fun q => pop (ws.getD (s + 1 + q) 0)) r + pop (ws.getD (s + 1 + r) 0 &&& (2 ^ eo - 1)) = (onL z (fun j => decide (a ≤ j) && f j)).length := by
  subst ha hz
  rw [onL_len_add, onL_len_add, show 64 * (s + 1) = 64 * s + 64 by omega, onL_len_add, onL_none (64 * s) _ (fun j hj => by rw [decide_eq_false (by omega)]; rfl)]
  rw [pop_part _ 64 (fun t => decide (64 * s + so ≤ 64 * s + t) && f (64 * s + t)) (by omega) (fun t ht => ?_), pop_part _ eo (fun t => decide (64 * s + so ≤ 64 * s + 64 + 64 * r + t) && f (64 * s + 64 + 64 * r + t)) (by omega) (fun t ht => ?_),
    count_words (fun q => ws.getD (s + 1 + q) 0) (fun j => decide (64 * s + so ≤ 64 * s + 64 + j) && f (64 * s + 64 + j)) r (fun q t hq ht => ?_)]
  · simp [Nat.add_assoc]
  · show (ws.getD (s + 1 + q) 0).testBit t = _
    rw [h.testAt _ t ht, decide_eq_true (show 64 * (s + 1 + q) + t < n by omega), decide_eq_true (show 64 * s + so ≤ 64 * s + 64 + (64 * q + t) by omega), show 64 * (s + 1 + q) + t = 64 * s + 64 + (64 * q + t) by omega]
  · rw [Nat.testBit_and, two_pow_sub_testBit, h.testAt _ t ht]
    by_cases h1 : t < eo
    · rw [decide_eq_true h1, decide_eq_true (show 64 * (s + 1 + r) + t < n by omega), decide_eq_true (show 64 * s + so ≤ 64 * s + 64 + 64 * r + t by omega), show 64 * (s + 1 + r) + t = 64 * s + 64 + 64 * r + t by omega]; simp
    · rw [decide_eq_false h1]; simp
  · rw [Nat.testBit_and, testBit_flipW _ _ ht, two_pow_sub_testBit, h.testAt _ t ht, decide_eq_true (show 64 * s + t < n by omega), decide_eq_true ht]
    by_cases h2 : t < so
    · rw [decide_eq_true h2, decide_eq_false (show ¬ 64 * s + so ≤ 64 * s + t by omega)]; simp
    · rw [decide_eq_false h2, decide_eq_true (show 64 * s + so ≤ 64 * s + t by omega)]; simp
theorem mask_e (s : Nat) (hs : s < 64) : IntKind.u64.wrap (IntKind.u64.wrap (2 ^ s) - 1) = ((2 ^ s - 1 : Nat) : Int) := by
  rw [wrap_pow s hs]
  have : 1 ≤ 2 ^ s := Nat.one_le_two_pow
  rw [show ((2 ^ s : Nat) : Int) - 1 = ((2 ^ s - 1 : Nat) : Int) by omega, u64_wrap_nat _ (Nat.lt_of_le_of_lt (Nat.sub_le _ _) (pow_lt s hs))]
theorem mask_lt (s : Nat) (hs : s < 64) : 2 ^ s - 1 < 2 ^ 64 := Nat.lt_of_le_of_lt (Nat.sub_le _ _) (pow_lt s hs)

set_option maxHeartbeats 2000000 in
theorem onesBetween_c (b g n a z : Nat) (f : Nat → Bool) (w : World) (h : BSet w b g n f) (hn : n ≤ 20001) (ha : a ≤ n) (hz : z ≤ n) :
    Calls Try.prog 57 #[.pointer (some ⟨b, 0, none⟩), .int .u64 a, .int .u64 z] w fun e w' => e = .returned (.int .u64 ((onL z (fun j => decide (a ≤ j) && f j)).length : Nat)) ∧ w' = w := by
  obtain ⟨hne, cap, ws, hh, hr, hw⟩ := h
  have hl := hw.length
  have hle := hr.le
  have hc0 := hh.c0
  have hc1 := hh.c1
  have hcl : ¬ (n : Int) < (z : Int) := by omega
  by_cases haz : z ≤ a
  · have haz' : (z : Int) ≤ (a : Int) := by omega
    have he : (onL z (fun j => decide (a ≤ j) && f j)).length = 0 := by rw [onL_none _ _ (fun j hj => by rw [decide_eq_false (by omega)]; rfl)]; rfl
    rw [he]
    clear he hl hw hr
    go_enter Try.func57, Try.ntmps57
    go_wp2_with (go_at_call 74; refine (panicIfNull_c _ _).mono ?_; rintro e w' ⟨rfl, rfl⟩)
    go_ret
    exact ⟨rfl, rfl⟩
  · have haz' : ¬ (z : Int) ≤ (a : Int) := by omega
    obtain ⟨s, hs⟩ : ∃ s, a / 64 = s := ⟨_, rfl⟩
    obtain ⟨so, hso⟩ : ∃ s, a % 64 = s := ⟨_, rfl⟩
    obtain ⟨e, he⟩ : ∃ s, z / 64 = s := ⟨_, rfl⟩
    obtain ⟨eo, heo⟩ : ∃ s, z % 64 = s := ⟨_, rfl⟩
    obtain ⟨m, hm⟩ : ∃ m, ws.length = m := ⟨_, rfl⟩
    rw [hm] at hc1 hl hle
    have hso1 : so < 64 := by omega
    have heo1 : eo < 64 := by omega
    have hs1 : (a : Int) / 64 = (s : Int) := by omega
    have he1 : (z : Int) / 64 = (e : Int) := by omega
    have hs2 : bits .and .u64 (a : Int) 63 = (so : Int) := by rw [and63 a (by omega), hso]
    have he2 : bits .and .u64 (z : Int) 63 = (eo : Int) := by rw [and63 z (by omega), heo]
    have hsm : s < m := by omega
    have hse : s ≤ e := by omega
    have hem : eo ≠ 0 → e < m := by omega
    have hem2 : e ≤ m := by omega
    have hm4 : m ≤ 400 := by omega
    have ha2 : a = 64 * s + so := by omega
    have hz2 : z = 64 * e + eo := by omega
    have hX := hr.cell s (by omega)
    have hXl := hw.word s
    have w1 := mask_e so hso1
    have w2 := mask_e eo heo1
    have W1 := Lib.hid w1; have W2 := Lib.hid w2; clear w1 w2
    have A2 := Lib.hid ha2; have Z2 := Lib.hid hz2; have HM := Lib.hid hm; have HA := Lib.hid hso; have HE := Lib.hid heo
    clear ha2 hz2 hm hs he hso heo
    by_cases hse2 : s = e
    · subst hse2
      have hfin := ones_one hw a z s so eo A2.out Z2.out hso1 heo1 hz
      have hd : ((s : Int) == (s : Int)) = true := by simp
      rw [← hfin]
      have x1 : bits .andNot .u64 ((2 ^ eo - 1 : Nat) : Int) ((2 ^ so - 1 : Nat) : Int) = ((andNot (2 ^ eo - 1) (2 ^ so - 1) : Nat) : Int) := bits_andNot_nat _ _ (mask_lt eo heo1) (mask_lt so hso1)
      have x1l : andNot (2 ^ eo - 1) (2 ^ so - 1) < 2 ^ 64 := andNot_lt _ _ (mask_lt eo heo1)
      generalize andNot (2 ^ eo - 1) (2 ^ so - 1) = K at *
      have x2 : bits .and .u64 ((ws.getD s 0 : Nat) : Int) (K : Int) = ((ws.getD s 0 &&& K : Nat) : Int) := bits_and_nat _ _ hXl x1l
      have hXK : ws.getD s 0 &&& K < 2 ^ 64 := Nat.lt_of_le_of_lt Nat.and_le_left hXl
      generalize ws.getD s 0 = X at *
      have X1 := Lib.hid x1; have X2 := Lib.hid x2; clear x1 x2 hfin hl hw hr
      have hpl := pop_le (X &&& K)
      go_enter Try.func57, Try.ntmps57
      go_wp2_with (go_at_call 74; refine (panicIfNull_c _ _).mono ?_; rintro e w' ⟨rfl, rfl⟩)
      rw [W1.out, W2.out, X1.out, X2.out]
      refine (onesCount_c _ hXK _).mono ?_
      rintro e w' ⟨rfl, rfl⟩
      go_wp2_with fail
      go_ret
      exact ⟨rfl, rfl⟩
    · have hse3 : s < e := by omega
      obtain ⟨r, hr0⟩ : ∃ r, e = s + 1 + r := ⟨e - (s + 1), by omega⟩
      subst hr0
      have hfin := ones_more hw a z s so r eo A2.out (by have := Z2.out; omega) hso1 heo1 hz
      have hd : ((s : Int) == ((s + 1 + r : Nat) : Int)) = false := by simp; omega
      rw [← hfin]
      have x1 : bits .xor .u64 IntKind.u64.max ((2 ^ so - 1 : Nat) : Int) = ((flipW (2 ^ so - 1) : Nat) : Int) := bits_flip _ (mask_lt so hso1)
      have x1l : flipW (2 ^ so - 1) < 2 ^ 64 := flipW_lt _ (mask_lt so hso1)
      generalize flipW (2 ^ so - 1) = K at *
      have x2 : bits .and .u64 ((ws.getD s 0 : Nat) : Int) (K : Int) = ((ws.getD s 0 &&& K : Nat) : Int) := bits_and_nat _ _ hXl x1l
      have hXK : ws.getD s 0 &&& K < 2 ^ 64 := Nat.lt_of_le_of_lt Nat.and_le_left hXl
      generalize ws.getD s 0 = X at *
      have X1 := Lib.hid x1; have X2 := Lib.hid x2; clear x1 x2 hfin
      have hpl := pop_le (X &&& K)
      obtain ⟨p0, hp0⟩ : ∃ p, pop (X &&& K) = p := ⟨_, rfl⟩
      obtain ⟨p1, hp1⟩ : ∃ p, sumN (fun q => pop (ws.getD (s + 1 + q) 0)) r = p := ⟨_, rfl⟩
      have hp1l : p1 ≤ 25600 := by rw [← hp1]; exact Nat.le_trans (sumN_le _ (fun q => pop_le _) r) (by omega)
      rw [hp0, hp1]
      rw [hp0] at hpl
      have P0 := Lib.hid hp0; have P1 := Lib.hid hp1; clear hp0 hp1
      have hcs : ∀ j, j < r → w.cell? ⟨g, (s + 1) + j, none⟩ = some (.int .u64 (ws.getD (s + 1 + j) 0 : Nat)) := fun j hj => hr.cell (s + 1 + j) (by have := HM.out; omega)
      have HC := Lib.hid hcs; clear hcs
      by_cases hr1 : r = 0
      · subst hr1
        have hp10 : Hid (p1 = 0) := P1.out.symm
        have hgt : ¬ ((s : Int) + 1 < ((s + 1 + 0 : Nat) : Int)) := by omega
        by_cases heo2 : eo = 0
        · subst heo2
          have hlast : Hid (pop (ws.getD (s + 1 + 0) 0 &&& (2 ^ 0 - 1)) = 0) := by show pop (_ &&& 0) = 0; rw [Nat.and_zero]; decide
          clear hl hw hr
          go_enter Try.func57, Try.ntmps57
          go_wp2_with (go_at_call 74; refine (panicIfNull_c _ _).mono ?_; rintro e w' ⟨rfl, rfl⟩)
          rw [W1.out, X1.out, X2.out]
          refine (onesCount_c _ hXK _).mono ?_
          rintro e w' ⟨rfl, rfl⟩
          rw [P0.out]
          go_wp2_with fail
          go_ret
          exact ⟨by rw [hlast.out, hp10.out]; rfl, rfl⟩
        · have hem3 := hem heo2
          have heo3 : (0 : Int) < (eo : Int) := by omega
          have hZ := hr.cell (s + 1 + 0) (by have := HM.out; omega)
          have hZl := hw.word (s + 1 + 0)
          generalize ws.getD (s + 1 + 0) 0 = Z at *
          have x3 : bits .and .u64 (Z : Int) ((2 ^ eo - 1 : Nat) : Int) = ((Z &&& (2 ^ eo - 1) : Nat) : Int) := bits_and_nat _ _ hZl (mask_lt eo heo1)
          have hZK : Z &&& (2 ^ eo - 1) < 2 ^ 64 := Nat.lt_of_le_of_lt Nat.and_le_left hZl
          have hpz := pop_le (Z &&& (2 ^ eo - 1))
          generalize Z &&& (2 ^ eo - 1) = ZK at *
          have X3 := Lib.hid x3; clear x3 hl hw hr
          go_enter Try.func57, Try.ntmps57
          go_wp2_with (go_at_call 74; refine (panicIfNull_c _ _).mono ?_; rintro e w' ⟨rfl, rfl⟩)
          rw [W1.out, X1.out, X2.out]
          refine (onesCount_c _ hXK _).mono ?_
          rintro e w' ⟨rfl, rfl⟩
          rw [P0.out]
          go_wp2_with fail
          rw [W2.out, X3.out]
          refine (onesCount_c _ hZK _).mono ?_
          rintro e w' ⟨rfl, rfl⟩
          go_wp2_with fail
          go_ret
          exact ⟨by rw [hp10.out]; simp, rfl⟩
      · have hgt : ((s : Int) + 1 < ((s + 1 + r : Nat) : Int)) := by omega
        by_cases heo2 : eo = 0
        · subst heo2
          have hlast : Hid (pop (ws.getD (s + 1 + r) 0 &&& (2 ^ 0 - 1)) = 0) := by show pop (_ &&& 0) = 0; rw [Nat.and_zero]; decide
          clear hl hr
          go_enter Try.func57, Try.ntmps57
          go_wp2_with (go_at_call 74; refine (panicIfNull_c _ _).mono ?_; rintro e w' ⟨rfl, rfl⟩)
          rw [W1.out, X1.out, X2.out]
          refine (onesCount_c _ hXK _).mono ?_
          rintro e w' ⟨rfl, rfl⟩
          rw [P0.out]
          go_wp2_with fail
          refine (popcntSlice_c g (s + 1) r _ (fun j => ws.getD (s + 1 + j) 0) _ (fun j => hw.word _) (by omega) HC.out).mono ?_
          rintro e w' ⟨rfl, rfl⟩
          rw [P1.out]
          go_wp2_with fail
          go_ret
          exact ⟨by rw [hlast.out]; simp, rfl⟩
        · have hem3 := hem heo2
          have heo3 : (0 : Int) < (eo : Int) := by omega
          have hZ := hr.cell (s + 1 + r) (by have := HM.out; omega)
          have hZl := hw.word (s + 1 + r)
          generalize ws.getD (s + 1 + r) 0 = Z at *
          have x3 : bits .and .u64 (Z : Int) ((2 ^ eo - 1 : Nat) : Int) = ((Z &&& (2 ^ eo - 1) : Nat) : Int) := bits_and_nat _ _ hZl (mask_lt eo heo1)
          have hZK : Z &&& (2 ^ eo - 1) < 2 ^ 64 := Nat.lt_of_le_of_lt Nat.and_le_left hZl
          have hpz := pop_le (Z &&& (2 ^ eo - 1))
          generalize Z &&& (2 ^ eo - 1) = ZK at *
          have X3 := Lib.hid x3; clear x3 hl hr
          go_enter Try.func57, Try.ntmps57
          go_wp2_with (go_at_call 74; refine (panicIfNull_c _ _).mono ?_; rintro e w' ⟨rfl, rfl⟩)
          rw [W1.out, X1.out, X2.out]
          refine (onesCount_c _ hXK _).mono ?_
          rintro e w' ⟨rfl, rfl⟩
          rw [P0.out]
          go_wp2_with fail
          refine (popcntSlice_c g (s + 1) r _ (fun j => ws.getD (s + 1 + j) 0) _ (fun j => hw.word _) (by omega) HC.out).mono ?_
          rintro e w' ⟨rfl, rfl⟩
          rw [P1.out]
          go_wp2_with fail
          rw [W2.out, X3.out]
          refine (onesCount_c _ hZK _).mono ?_
          rintro e w' ⟨rfl, rfl⟩
          go_wp2_with fail
          go_ret
          exact ⟨by simp, rfl⟩

end Go.Proofs.Ytdngkdidelogbaa

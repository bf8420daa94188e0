/-
  The contracts of the cardinalities of two sets, for sets of at most 20000 bits.
-/
import Derived.Test.YtdngkdidelogbaaCard
namespace Go.Proofs.Ytdngkdidelogbaa
set_option linter.unusedSimpArgs false
set_option linter.unusedVariables false
open Go.RowKit


theorem sumN_add (h : Nat → Nat) (a b : Nat) : sumN h (a + b) = sumN h a + sumN (fun j => h (a + j)) b := by
  induction b with
  | zero => rfl
  | succ b ih =>
    show sumN h (a + b) + h (a + b) = sumN h a + (sumN (fun j => h (a + j)) b + h (a + b))
    rw [ih]; omega
theorem card_low (xs : Nat → Nat) (F : Nat → Bool) (m N : Nat) (h : ∀ q t, q < m → t < 64 → (xs q).testBit t = F (64 * q + t)) (hout : ∀ j, 64 * m ≤ j → j < N → F j = false) (hin : ∀ j, N ≤ j → F j = false) :
    sumN (fun q => pop (xs q)) m = (onL N F).length := by
  rw [count_words xs F m h, onL_both (64 * m) N F F (fun j => by
    by_cases h1 : j < 64 * m
    · by_cases h2 : j < N
      · rw [decide_eq_true h1, decide_eq_true h2]
      · rw [hin j (by omega)]; simp
    · by_cases h2 : j < N
      · rw [hout j (by omega) h2]; simp
      · rw [hin j (by omega)]; simp)]
set_option maxHeartbeats 2000000 in
theorem intersectionCard_c (b1 g1 n1 b2 g2 n2 : Nat) (f1 f2 : Nat → Bool) (w : World) (h1 : BSet w b1 g1 n1 f1) (h2 : BSet w b2 g2 n2 f2) (hn1 : n1 ≤ 20000) (hn2 : n2 ≤ 20000) :
    Calls Try.prog 48 #[.pointer (some ⟨b1, 0, none⟩), .pointer (some ⟨b2, 0, none⟩)] w fun e w' => e = .returned (.int .u64 ((onL (max n1 n2) (fun j => (decide (j < n1) && f1 j) && (decide (j < n2) && f2 j))).length : Nat)) ∧ Kept [] w w' := by
  obtain ⟨C, hC⟩ : ∃ C, (onL (max n1 n2) (fun j => (decide (j < n1) && f1 j) && (decide (j < n2) && f2 j))).length = C := ⟨_, rfl⟩
  have hCb : C ≤ 20000 := by rw [← hC]; exact Nat.le_trans (onL_le _ _) (by omega)
  rw [hC]
  have HC := Lib.hid hC; clear hC
  obtain ⟨hne1, cap1, ws, hh1, hr1, hw1⟩ := h1
  obtain ⟨hne2, cap2, zs, hh2, hr2, hw2⟩ := h2
  have c10 := hh1.c0
  have c20 := hh2.c0
  have c11 := hh1.c1
  have c21 := hh2.c1
  have hl1 := hw1.length
  have hl2 := hw2.length
  have t1 := hw1.testAt
  have t2 := hw2.testAt
  obtain ⟨p1, hp1⟩ : ∃ p, ws.length = p := ⟨_, rfl⟩
  obtain ⟨p2, hp2⟩ : ∃ p, zs.length = p := ⟨_, rfl⟩
  rw [hp1] at hl1 c11
  rw [hp2] at hl2 c21
  have hq1 : p1 ≤ 313 := by omega
  have hq2 : p2 ≤ 313 := by omega
  have HL1 := Lib.hid hl1; have HL2 := Lib.hid hl2; have HP1 := Lib.hid hp1; have HP2 := Lib.hid hp2
  clear hl1 hl2 hp1 hp2 hh1 hh2
  by_cases hz1 : n1 = 0
  · have hC0 : C = 0 := by
      rw [← HC.out, onL_congr _ _ (fun _ => false) (fun j _ => by rw [decide_eq_false (show ¬ j < n1 by omega)]; simp)]
      simp [onL]
    have hzi : (n1 : Int) = 0 := by omega
    have hzd : decide (n1 = 0) = true := decide_eq_true hz1
    have hzb : ((n1 : Int) == 0) = true := beq_iff_eq.2 hzi
    have HZ := Lib.hid hz1; clear hz1
    go_enter Try.func48, Try.ntmps48
    go_wp2_with (go_at_call 74; refine (panicIfNull_c _ _).mono ?_; rintro e w' ⟨rfl, rfl⟩)
    go_ret
    exact ⟨by rw [hC0]; rfl, Kept.refl _ _⟩
  by_cases hz2 : n2 = 0
  · have hC0 : C = 0 := by
      rw [← HC.out, onL_congr _ _ (fun _ => false) (fun j _ => by rw [decide_eq_false (show ¬ j < n2 by omega)]; simp)]
      simp [onL]
    have hzi : (n2 : Int) = 0 := by omega
    have hzd : decide (n2 = 0) = true := decide_eq_true hz2
    have hzb : ((n2 : Int) == 0) = true := beq_iff_eq.2 hzi
    have hn1i : ¬ (n1 : Int) = 0 := by omega
    have hn1d : decide (n1 = 0) = false := decide_eq_false hz1
    have hn1b : ((n1 : Int) == 0) = false := beq_eq_false_iff_ne.2 hn1i
    have HZ := Lib.hid hz2; clear hz2
    go_enter Try.func48, Try.ntmps48
    go_wp2_with (go_at_call 74; refine (panicIfNull_c _ _).mono ?_; rintro e w' ⟨rfl, rfl⟩)
    go_ret
    exact ⟨by rw [hC0]; rfl, Kept.refl _ _⟩
  have hn1i : ¬ (n1 : Int) = 0 := by omega
  have hn1d : decide (n1 = 0) = false := decide_eq_false hz1
  have hn2i : ¬ (n2 : Int) = 0 := by omega
  have hn2d : decide (n2 = 0) = false := decide_eq_false hz2
  have hn1b : ((n1 : Int) == 0) = false := beq_eq_false_iff_ne.2 hn1i
  have hn2b : ((n2 : Int) == 0) = false := beq_eq_false_iff_ne.2 hn2i
  by_cases hle : n1 ≤ n2
  · have hps : 0 < p1 := by have := HL1.out; omega
    have hpl : p1 ≤ p2 := by have := HL1.out; have := HL2.out; omega
    have hcard : sumN (fun j => pop ((fun a b => a &&& b) (ws.getD j 0) (zs.getD j 0))) p1 = C := by
      rw [← HC.out]
      refine card_low _ _ _ _ (fun q t hq ht => ?_) (fun j h1 h2 => ?_) (fun j h1 => ?_)
      · rw [wand_bits, t1 q t ht, t2 q t ht]
      · rw [show decide (j < n1) = false from decide_eq_false (by have := HL1.out; omega)]; simp
      · rw [show decide (j < n1) = false from decide_eq_false (by omega)]; simp
    go_enter Try.func48, Try.ntmps48
    go_wp2_with (go_at_call 74; refine (panicIfNull_c _ _).mono ?_; rintro e w' ⟨rfl, rfl⟩)
    refine (sort_c b1 b2 n1 n2 _ c10 c20).mono ?_
    rintro e w' ⟨rfl, kq, rfl⟩
    rw [if_pos hle]
    have c11 : (w.drewN kq).cell? ⟨b1, 1, none⟩ = _ := c11
    have c21 : (w.drewN kq).cell? ⟨b2, 1, none⟩ = _ := c21
    have hr1 : URow (w.drewN kq) g1 ws cap1 := hr1
    have hr2 : URow (w.drewN kq) g2 zs cap2 := hr2
    have kk : Kept [] w (w.drewN kq) := (Kept.refl _ _).drewN kq
    clear c10 c20
    generalize w.drewN kq = W at *
    have hcall : ∀ n, Calls Try.prog 76 #[.slice (some ⟨g1, 0, none⟩) p1 cap1, .slice (some ⟨g2, 0, none⟩) p2 cap2] (W.drewN n) fun e w' => e = .returned (.int .u64 (C : Nat)) ∧ ∃ m, w' = (W.drewN n).drewN m := fun n => by
      rw [← hcard]
      exact popcntAnd_c g1 g2 p1 p2 cap1 cap2 (fun j => ws.getD j 0) (fun j => zs.getD j 0) (W.drewN n) (fun j => hw1.word j) (fun j => hw2.word j) (by omega) (by omega) (by omega) (fun j hj => hr1.cell j (by have := HP1.out; omega)) (fun j hj => hr2.cell j (by have := HP2.out; omega))
    clear hcard t1 t2 hw1 hw2
    go_wp2_with fail
    go_quiet ((go_at_call 76; exact Calls.quiet_of (hcall _)))
    go_wp2_with fail
    go_ret
    exact ⟨rfl, kk.drewN _⟩
  · have hps : 0 < p2 := by have := HL2.out; omega
    have hpl : p2 ≤ p1 := by have := HL1.out; have := HL2.out; omega
    have hcard : sumN (fun j => pop ((fun a b => a &&& b) (zs.getD j 0) (ws.getD j 0))) p2 = C := by
      rw [← HC.out]
      refine card_low _ _ _ _ (fun q t hq ht => ?_) (fun j h1 h2 => ?_) (fun j h1 => ?_)
      · rw [wand_bits, t2 q t ht, t1 q t ht]; exact Bool.and_comm ..
      · rw [show decide (j < n2) = false from decide_eq_false (by have := HL2.out; omega)]; simp
      · rw [show decide (j < n1) = false from decide_eq_false (by omega)]; simp
    go_enter Try.func48, Try.ntmps48
    go_wp2_with (go_at_call 74; refine (panicIfNull_c _ _).mono ?_; rintro e w' ⟨rfl, rfl⟩)
    refine (sort_c b1 b2 n1 n2 _ c10 c20).mono ?_
    rintro e w' ⟨rfl, kq, rfl⟩
    rw [if_neg hle]
    have c11 : (w.drewN kq).cell? ⟨b1, 1, none⟩ = _ := c11
    have c21 : (w.drewN kq).cell? ⟨b2, 1, none⟩ = _ := c21
    have hr1 : URow (w.drewN kq) g1 ws cap1 := hr1
    have hr2 : URow (w.drewN kq) g2 zs cap2 := hr2
    have kk : Kept [] w (w.drewN kq) := (Kept.refl _ _).drewN kq
    clear c10 c20
    generalize w.drewN kq = W at *
    have hcall : ∀ n, Calls Try.prog 76 #[.slice (some ⟨g2, 0, none⟩) p2 cap2, .slice (some ⟨g1, 0, none⟩) p1 cap1] (W.drewN n) fun e w' => e = .returned (.int .u64 (C : Nat)) ∧ ∃ m, w' = (W.drewN n).drewN m := fun n => by
      rw [← hcard]
      exact popcntAnd_c g2 g1 p2 p1 cap2 cap1 (fun j => zs.getD j 0) (fun j => ws.getD j 0) (W.drewN n) (fun j => hw2.word j) (fun j => hw1.word j) (by omega) (by omega) (by omega) (fun j hj => hr2.cell j (by have := HP2.out; omega)) (fun j hj => hr1.cell j (by have := HP1.out; omega))
    clear hcard t1 t2 hw1 hw2
    go_wp2_with fail
    go_quiet ((go_at_call 76; exact Calls.quiet_of (hcall _)))
    go_wp2_with fail
    go_ret
    exact ⟨rfl, kk.drewN _⟩

end Go.Proofs.Ytdngkdidelogbaa

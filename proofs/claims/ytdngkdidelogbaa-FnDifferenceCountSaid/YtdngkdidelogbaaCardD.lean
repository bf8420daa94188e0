/-
  The contract of DifferenceCardinality, for sets of at most 20000 bits.
-/
import Derived.Test.YtdngkdidelogbaaMask
namespace Go.Proofs.Ytdngkdidelogbaa
set_option linter.unusedSimpArgs false
set_option linter.unusedVariables false
open Go.RowKit

set_option maxHeartbeats 2000000 in
theorem differenceCard_c (b1 g1 n1 b2 g2 n2 : Nat) (f1 f2 : Nat → Bool) (w : World) (h1 : BSet w b1 g1 n1 f1) (h2 : BSet w b2 g2 n2 f2) (hn1 : n1 ≤ 20000) (hn2 : n2 ≤ 20000) :
    Calls Try.prog 50 #[.pointer (some ⟨b1, 0, none⟩), .pointer (some ⟨b2, 0, none⟩)] w fun e w' => e = .returned (.int .u64 ((onL (max n1 n2) (fun j => (decide (j < n1) && f1 j) && !(decide (j < n2) && f2 j))).length : Nat)) ∧ Kept [] w w' := by
  obtain ⟨C, hC⟩ : ∃ C, (onL (max n1 n2) (fun j => (decide (j < n1) && f1 j) && !(decide (j < n2) && f2 j))).length = C := ⟨_, rfl⟩
  have hCb : C ≤ 20000 := by rw [← hC]; exact Nat.le_trans (onL_le _ _) (by omega)
  rw [hC]
  have HC := Lib.hid hC; clear hC
  have hb1 := h1
  have hb2 := h2
  obtain ⟨hne1, cap1, ws, hh1, hr1, hw1⟩ := h1
  obtain ⟨hne2, cap2, zs, hh2, hr2, hw2⟩ := h2
  have c10 := hh1.c0
  have c20 := hh2.c0
  have c11 := hh1.c1
  have c21 := hh2.c1
  have hl1 := hw1.length
  have hl2 := hw2.length
  have t1 := hw1.testAt
  have t2 := hw2.testAt
  obtain ⟨p1, hp1⟩ : ∃ p, ws.length = p := ⟨_, rfl⟩
  obtain ⟨p2, hp2⟩ : ∃ p, zs.length = p := ⟨_, rfl⟩
  rw [hp1] at hl1 c11
  rw [hp2] at hl2 c21
  have hq1 : p1 ≤ 313 := by omega
  have hq2 : p2 ≤ 313 := by omega
  have HL1 := Lib.hid hl1; have HL2 := Lib.hid hl2; have HP1 := Lib.hid hp1; have HP2 := Lib.hid hp2
  clear hl1 hl2 hp1 hp2 hh1 hh2
  by_cases hle : p1 < p2
  · have le1 : (p1 : Int) < (p2 : Int) := by omega
    have le2 : decide (p1 < p2) = true := decide_eq_true hle
    obtain ⟨C1, hC1⟩ : ∃ C1, sumN (fun j => pop (andNot (ws.getD j 0) (zs.getD j 0))) p1 = C1 := ⟨_, rfl⟩
    obtain ⟨C2, hC2⟩ : ∃ C2, sumN (fun j => pop (ws.getD (p1 + j) 0)) (p1 - p1) = C2 := ⟨_, rfl⟩
    have hCC : C1 + C2 = C := by
      rw [← HC.out, ← card_low (fun q => if q < p1 then andNot (ws.getD q 0) (zs.getD q 0) else ws.getD q 0) (fun j => (decide (j < n1) && f1 j) && !(decide (j < n2) && f2 j)) p1 (max n1 n2) (fun q t hq ht => ?_) (fun j h1 h2 => ?_) (fun j h1 => ?_)]
      · have e : p1 = p1 + (p1 - p1) := by omega
        rw [show sumN (fun q => pop (if q < p1 then andNot (ws.getD q 0) (zs.getD q 0) else ws.getD q 0)) p1 = sumN (fun q => pop (if q < p1 then andNot (ws.getD q 0) (zs.getD q 0) else ws.getD q 0)) (p1 + (p1 - p1)) from congrArg _ e, sumN_add, ← hC1, ← hC2]
        congr 1
        · exact sumN_congr _ _ _ fun j hj => by rw [if_pos hj]
        · exact sumN_congr _ _ _ fun j hj => by rw [if_neg (by omega)]
      · by_cases hqs : q < p1
        · rw [if_pos hqs, testBit_andNot, t1 q t ht, t2 q t ht]
        · rw [if_neg hqs, t1 q t ht, show decide (64 * q + t < n2) = false from decide_eq_false (by have := HL2.out; omega)]; simp
      · rw [show decide (j < n1) = false from decide_eq_false (by have := HL1.out; omega)]; rfl
      · rw [show decide (j < n1) = false from decide_eq_false (by omega)]; rfl
    have hC1b : C1 ≤ 20000 := by omega
    have hC2b : C2 ≤ 20000 := by omega
    have hlow : 0 < p1 → ∀ wx, URow wx g1 ws cap1 → URow wx g2 zs cap2 → Calls Try.prog 79 #[.slice (some ⟨g1, 0, none⟩) p1 cap1, .slice (some ⟨g2, 0, none⟩) p1 cap2] wx fun e w' => e = .returned (.int .u64 (C1 : Nat)) ∧ ∃ m, w' = wx.drewN m := fun h0 wx hr1 hr2 => by
      rw [← hC1]
      exact popcntMask_c g1 g2 p1 p1 cap1 cap2 (fun j => ws.getD j 0) (fun j => zs.getD j 0) wx (fun j => hw1.word j) (fun j => hw2.word j) h0 (by omega) (by omega) (fun j hj => hr1.cell j (by have := HP1.out; omega)) (fun j hj => hr2.cell j (by have := HP2.out; omega))
    have hcap1 : p1 ≤ cap1 := by have := hr1.le; have := HP1.out; omega
    have hcap2 : p2 ≤ cap2 := by have := hr2.le; have := HP2.out; omega
    have HCC := Lib.hid hCC
    have HC1 := Lib.hid hC1; have HC2 := Lib.hid hC2; have HLE := Lib.hid hle
    clear t1 t2 hCC hC1 hC2 hle
    have s0 : (0 : Int) ≤ (p1 : Int) := by omega
    have s1 : (p1 : Int) ≤ (p1 : Int) := by have := HLE.out; omega
    have s2 : (p1 : Int) ≤ (cap1 : Int) := by omega
    have s3 : (p1 : Int) ≤ (cap2 : Int) := by omega
    have s4 : (p1 : Int) ≤ (cap1 : Int) := by omega
    by_cases h0 : 0 < p1
    · have hC20 : C2 = 0 := by rw [← HC2.out, Nat.sub_self]; rfl
      have hlow := hlow h0
      have z0 : (0 : Int) < (p1 : Int) := by omega
      have kk : Kept [] w w := Kept.refl _ _
      go_enter Try.func50, Try.ntmps50
      go_wp2_with (go_at_call 74; refine (panicIfNull_c _ _).mono ?_; rintro e w' ⟨rfl, rfl⟩)
      refine (wordCount_c b2 g2 n2 f2 _ hb2 (by omega)).mono ?_
      rintro e w' ⟨rfl, rfl⟩
      rw [← HL2.out]
      go_wp2_with fail
      refine (wordCount_c b1 g1 n1 f1 _ hb1 (by omega)).mono ?_
      rintro e w' ⟨rfl, rfl⟩
      rw [← HL1.out]
      go_wp2_with fail
      refine (wordCount_c b1 g1 n1 f1 _ hb1 (by omega)).mono ?_
      rintro e w' ⟨rfl, rfl⟩
      rw [← HL1.out]
      go_wp2_with fail
      go_quiet ((go_at_call 79; exact Calls.quiet_of (hlow _ hr1 hr2)))
      have c11 : (w.drewN nq).cell? ⟨b1, 1, none⟩ = _ := c11
      have c21 : (w.drewN nq).cell? ⟨b2, 1, none⟩ = _ := c21
      have hr1 : URow (w.drewN nq) g1 ws cap1 := hr1
      have hr2 : URow (w.drewN nq) g2 zs cap2 := hr2
      have kk : Kept [] w (w.drewN nq) := kk.drewN nq
      generalize w.drewN nq = W at *
      go_wp2_with fail
      · refine (popcntSlice_c g1 0 0 0 (fun j => ws.getD (p1 + j) 0) _ (fun j => hw1.word _) (Nat.zero_le _) (fun j hj => absurd hj (Nat.not_lt_zero _))).mono ?_
        rintro e w' ⟨rfl, rfl⟩
        rw [show ∀ h : Nat → Nat, sumN h 0 = 0 from fun _ => rfl]
        go_wp2_with fail
        go_ret
        exact ⟨by rw [← HCC.out, hC20]; simp, kk⟩
      · refine (popcntSlice_c g1 p1 0 (cap1 - p1) (fun j => ws.getD (p1 + j) 0) _ (fun j => hw1.word _) (Nat.zero_le _) (fun j hj => absurd hj (Nat.not_lt_zero _))).mono ?_
        rintro e w' ⟨rfl, rfl⟩
        rw [show ∀ h : Nat → Nat, sumN h 0 = 0 from fun _ => rfl]
        go_wp2_with fail
        go_ret
        exact ⟨by rw [← HCC.out, hC20]; simp, kk⟩
    · have hC20 : C2 = 0 := by rw [← HC2.out, Nat.sub_self]; rfl
      have hC10 : C1 = 0 := by rw [← HC1.out, show p1 = 0 by omega]; rfl
      have z0 : ¬ (0 : Int) < (p1 : Int) := by omega
      clear hlow
      have kk : Kept [] w w := Kept.refl _ _
      go_enter Try.func50, Try.ntmps50
      go_wp2_with (go_at_call 74; refine (panicIfNull_c _ _).mono ?_; rintro e w' ⟨rfl, rfl⟩)
      refine (wordCount_c b2 g2 n2 f2 _ hb2 (by omega)).mono ?_
      rintro e w' ⟨rfl, rfl⟩
      rw [← HL2.out]
      go_wp2_with fail
      refine (wordCount_c b1 g1 n1 f1 _ hb1 (by omega)).mono ?_
      rintro e w' ⟨rfl, rfl⟩
      rw [← HL1.out]
      go_wp2_with fail
      refine (wordCount_c b1 g1 n1 f1 _ hb1 (by omega)).mono ?_
      rintro e w' ⟨rfl, rfl⟩
      rw [← HL1.out]
      go_wp2_with fail
      · refine (popcntSlice_c g1 0 0 0 (fun j => ws.getD (p1 + j) 0) _ (fun j => hw1.word _) (Nat.zero_le _) (fun j hj => absurd hj (Nat.not_lt_zero _))).mono ?_
        rintro e w' ⟨rfl, rfl⟩
        rw [show ∀ h : Nat → Nat, sumN h 0 = 0 from fun _ => rfl]
        go_wp2_with fail
        go_ret
        exact ⟨by rw [← HCC.out, hC10, hC20]; simp, kk⟩
      · refine (popcntSlice_c g1 p1 0 (cap1 - p1) (fun j => ws.getD (p1 + j) 0) _ (fun j => hw1.word _) (Nat.zero_le _) (fun j hj => absurd hj (Nat.not_lt_zero _))).mono ?_
        rintro e w' ⟨rfl, rfl⟩
        rw [show ∀ h : Nat → Nat, sumN h 0 = 0 from fun _ => rfl]
        go_wp2_with fail
        go_ret
        exact ⟨by rw [← HCC.out, hC10, hC20]; simp, kk⟩
  · have le1 : ¬ (p1 : Int) < (p2 : Int) := by omega
    have le2 : decide (p1 < p2) = false := decide_eq_false hle
    obtain ⟨C1, hC1⟩ : ∃ C1, sumN (fun j => pop (andNot (ws.getD j 0) (zs.getD j 0))) p2 = C1 := ⟨_, rfl⟩
    obtain ⟨C2, hC2⟩ : ∃ C2, sumN (fun j => pop (ws.getD (p2 + j) 0)) (p1 - p2) = C2 := ⟨_, rfl⟩
    have hCC : C1 + C2 = C := by
      rw [← HC.out, ← card_low (fun q => if q < p2 then andNot (ws.getD q 0) (zs.getD q 0) else ws.getD q 0) (fun j => (decide (j < n1) && f1 j) && !(decide (j < n2) && f2 j)) p1 (max n1 n2) (fun q t hq ht => ?_) (fun j h1 h2 => ?_) (fun j h1 => ?_)]
      · have e : p1 = p2 + (p1 - p2) := by omega
        rw [show sumN (fun q => pop (if q < p2 then andNot (ws.getD q 0) (zs.getD q 0) else ws.getD q 0)) p1 = sumN (fun q => pop (if q < p2 then andNot (ws.getD q 0) (zs.getD q 0) else ws.getD q 0)) (p2 + (p1 - p2)) from congrArg _ e, sumN_add, ← hC1, ← hC2]
        congr 1
        · exact sumN_congr _ _ _ fun j hj => by rw [if_pos hj]
        · exact sumN_congr _ _ _ fun j hj => by rw [if_neg (by omega)]
      · by_cases hqs : q < p2
        · rw [if_pos hqs, testBit_andNot, t1 q t ht, t2 q t ht]
        · rw [if_neg hqs, t1 q t ht, show decide (64 * q + t < n2) = false from decide_eq_false (by have := HL2.out; omega)]; simp
      · rw [show decide (j < n1) = false from decide_eq_false (by have := HL1.out; omega)]; rfl
      · rw [show decide (j < n1) = false from decide_eq_false (by omega)]; rfl
    have hC1b : C1 ≤ 20000 := by omega
    have hC2b : C2 ≤ 20000 := by omega
    have hlow : 0 < p2 → ∀ wx, URow wx g1 ws cap1 → URow wx g2 zs cap2 → Calls Try.prog 79 #[.slice (some ⟨g1, 0, none⟩) p2 cap1, .slice (some ⟨g2, 0, none⟩) p2 cap2] wx fun e w' => e = .returned (.int .u64 (C1 : Nat)) ∧ ∃ m, w' = wx.drewN m := fun h0 wx hr1 hr2 => by
      rw [← hC1]
      exact popcntMask_c g1 g2 p2 p2 cap1 cap2 (fun j => ws.getD j 0) (fun j => zs.getD j 0) wx (fun j => hw1.word j) (fun j => hw2.word j) h0 (by omega) (by omega) (fun j hj => hr1.cell j (by have := HP1.out; omega)) (fun j hj => hr2.cell j (by have := HP2.out; omega))
    have hcap1 : p1 ≤ cap1 := by have := hr1.le; have := HP1.out; omega
    have hcap2 : p2 ≤ cap2 := by have := hr2.le; have := HP2.out; omega
    have HCC := Lib.hid hCC
    have HC1 := Lib.hid hC1; have HC2 := Lib.hid hC2; have HLE := Lib.hid hle
    clear t1 t2 hCC hC1 hC2 hle
    have s0 : (0 : Int) ≤ (p2 : Int) := by omega
    have s1 : (p2 : Int) ≤ (p1 : Int) := by have := HLE.out; omega
    have s2 : (p2 : Int) ≤ (cap1 : Int) := by omega
    have s3 : (p2 : Int) ≤ (cap2 : Int) := by omega
    have s4 : (p1 : Int) ≤ (cap1 : Int) := by omega
    by_cases h0 : 0 < p2
    · have hlow := hlow h0
      have z0 : (0 : Int) < (p2 : Int) := by omega
      have kk : Kept [] w w := Kept.refl _ _
      go_enter Try.func50, Try.ntmps50
      go_wp2_with (go_at_call 74; refine (panicIfNull_c _ _).mono ?_; rintro e w' ⟨rfl, rfl⟩)
      refine (wordCount_c b2 g2 n2 f2 _ hb2 (by omega)).mono ?_
      rintro e w' ⟨rfl, rfl⟩
      rw [← HL2.out]
      go_wp2_with fail
      refine (wordCount_c b1 g1 n1 f1 _ hb1 (by omega)).mono ?_
      rintro e w' ⟨rfl, rfl⟩
      rw [← HL1.out]
      go_wp2_with fail
      go_quiet ((go_at_call 79; exact Calls.quiet_of (hlow _ hr1 hr2)))
      have c11 : (w.drewN nq).cell? ⟨b1, 1, none⟩ = _ := c11
      have c21 : (w.drewN nq).cell? ⟨b2, 1, none⟩ = _ := c21
      have hr1 : URow (w.drewN nq) g1 ws cap1 := hr1
      have hr2 : URow (w.drewN nq) g2 zs cap2 := hr2
      have kk : Kept [] w (w.drewN nq) := kk.drewN nq
      generalize w.drewN nq = W at *
      go_wp2_with fail
      · refine (popcntSlice_c g1 0 (p1 - p2) 0 (fun j => ws.getD (p2 + j) 0) _ (fun j => hw1.word _) (by omega) (fun j hj => by omega)).mono ?_
        rintro e w' ⟨rfl, rfl⟩
        rw [HC2.out]
        go_wp2_with fail
        go_ret
        exact ⟨by rw [← HCC.out]; simp, kk⟩
      · refine (popcntSlice_c g1 p2 (p1 - p2) (cap1 - p2) (fun j => ws.getD (p2 + j) 0) _ (fun j => hw1.word _) (by omega) (fun j hj => hr1.cell (p2 + j) (by have := HP1.out; omega))).mono ?_
        rintro e w' ⟨rfl, rfl⟩
        rw [HC2.out]
        go_wp2_with fail
        go_ret
        exact ⟨by rw [← HCC.out]; simp, kk⟩
    · have hC10 : C1 = 0 := by rw [← HC1.out, show p2 = 0 by omega]; rfl
      have z0 : ¬ (0 : Int) < (p2 : Int) := by omega
      clear hlow
      have kk : Kept [] w w := Kept.refl _ _
      go_enter Try.func50, Try.ntmps50
      go_wp2_with (go_at_call 74; refine (panicIfNull_c _ _).mono ?_; rintro e w' ⟨rfl, rfl⟩)
      refine (wordCount_c b2 g2 n2 f2 _ hb2 (by omega)).mono ?_
      rintro e w' ⟨rfl, rfl⟩
      rw [← HL2.out]
      go_wp2_with fail
      refine (wordCount_c b1 g1 n1 f1 _ hb1 (by omega)).mono ?_
      rintro e w' ⟨rfl, rfl⟩
      rw [← HL1.out]
      go_wp2_with fail
      · refine (popcntSlice_c g1 0 (p1 - p2) 0 (fun j => ws.getD (p2 + j) 0) _ (fun j => hw1.word _) (by omega) (fun j hj => by omega)).mono ?_
        rintro e w' ⟨rfl, rfl⟩
        rw [HC2.out]
        go_wp2_with fail
        go_ret
        exact ⟨by rw [← HCC.out, hC10]; simp, kk⟩
      · refine (popcntSlice_c g1 p2 (p1 - p2) (cap1 - p2) (fun j => ws.getD (p2 + j) 0) _ (fun j => hw1.word _) (by omega) (fun j hj => hr1.cell (p2 + j) (by have := HP1.out; omega))).mono ?_
        rintro e w' ⟨rfl, rfl⟩
        rw [HC2.out]
        go_wp2_with fail
        go_ret
        exact ⟨by rw [← HCC.out, hC10]; simp, kk⟩

end Go.Proofs.Ytdngkdidelogbaa

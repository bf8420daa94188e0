/-
  The contracts of IsSuperSet and IsStrictSuperSet, for sets of at most 20000 bits.
-/
import Derived.Test.YtdngkdidelogbaaAny
import Derived.Test.YtdngkdidelogbaaEqual
namespace Go.Proofs.Ytdngkdidelogbaa
set_option linter.unusedSimpArgs false
set_option linter.unusedVariables false
open Go.RowKit


theorem sup_end {ws zs : List Nat} {n1 n2 p1 p2 k C : Nat} {f1 f2 : Nat → Bool} {r : Bool} (h1 : WordsOk ws n1 f1) (h2 : WordsOk zs n2 f2) (hp1 : ws.length = p1) (hp2 : zs.length = p2) (hk : k = min p1 p2)
    (hz : ∀ q, q < k → ws.getD q 0 &&& zs.getD q 0 = zs.getD q 0) (hC : sumN (fun j => pop (zs.getD (k + j) 0)) (p2 - k) = C) (hr : allB (max n1 n2) (fun j => (decide (j < n1) && f1 j) || !(decide (j < n2) && f2 j)) = r) : (C == 0) = r := by
  have hl1 := h1.length
  have hl2 := h2.length
  rw [← hr]
  cases hc : (C == 0) with
  | true =>
    rw [beq_iff_eq] at hc
    refine ((allB_iff _ _).2 fun j hj => ?_).symm
    rw [← h1.test j, ← h2.test j]
    by_cases hq : j / 64 < k
    · have := hz (j / 64) hq
      have e : (ws.getD (j / 64) 0 &&& zs.getD (j / 64) 0).testBit (j % 64) = (zs.getD (j / 64) 0).testBit (j % 64) := by rw [this]
      rw [Nat.testBit_and] at e
      revert e
      cases (ws.getD (j / 64) 0).testBit (j % 64) <;> cases (zs.getD (j / 64) 0).testBit (j % 64) <;> simp
    · have hzero : zs.getD (j / 64) 0 = 0 := by
        by_cases hp : j / 64 < p2
        · apply Classical.byContradiction
          intro hne
          have := sumN_pos (fun i => pop (zs.getD (k + i) 0)) (p2 - k) (j / 64 - k) (by omega) (by
            show 1 ≤ pop (zs.getD (k + (j / 64 - k)) 0)
            rw [show k + (j / 64 - k) = j / 64 by omega]; exact pop_pos _ (h2.word _) hne)
          omega
        · exact getD_out _ _ _ (by omega)
      rw [hzero]; simp
  | false =>
    rw [beq_eq_false_iff_ne] at hc
    cases hall : allB (max n1 n2) (fun j => (decide (j < n1) && f1 j) || !(decide (j < n2) && f2 j)) with
    | false => rfl
    | true =>
      exfalso
      refine hc ?_
      rw [← hC]
      refine sumN_zero _ _ fun i hi => ?_
      have hw : zs.getD (k + i) 0 = 0 := by
        apply Nat.eq_of_testBit_eq
        intro t
        rw [Nat.zero_testBit]
        by_cases ht : t < 64
        · have ha := (allB_iff _ _).1 hall
          cases hb : (zs.getD (k + i) 0).testBit t with
          | false => rfl
          | true =>
            have hb2 := hb
            rw [h2.testAt _ t ht] at hb
            have hj : 64 * (k + i) + t < n2 := by
              apply Classical.byContradiction
              intro h; rw [decide_eq_false h] at hb; cases hb
            have := ha (64 * (k + i) + t) (by omega)
            rw [hb, decide_eq_false (show ¬ 64 * (k + i) + t < n1 by omega)] at this
            cases this
        · exact testBit_big (h2.word _) (by omega)
      show pop (zs.getD (k + i) 0) = 0
      rw [hw]; exact pop_zero
theorem sup_bad {ws zs : List Nat} {n1 n2 k : Nat} {f1 f2 : Nat → Bool} (h1 : WordsOk ws n1 f1) (h2 : WordsOk zs n2 f2) (hne : ¬ ws.getD k 0 &&& zs.getD k 0 = zs.getD k 0) : allB (max n1 n2) (fun j => (decide (j < n1) && f1 j) || !(decide (j < n2) && f2 j)) = false := by
  cases hall : allB (max n1 n2) (fun j => (decide (j < n1) && f1 j) || !(decide (j < n2) && f2 j)) with
  | false => rfl
  | true =>
    exfalso
    refine hne (Nat.eq_of_testBit_eq fun t => ?_)
    rw [Nat.testBit_and]
    by_cases ht : t < 64
    · rw [h1.testAt k t ht, h2.testAt k t ht]
      by_cases hj : 64 * k + t < max n1 n2
      · have := (allB_iff _ _).1 hall (64 * k + t) hj
        revert this
        generalize (decide (64 * k + t < n1) && f1 (64 * k + t)) = a
        generalize (decide (64 * k + t < n2) && f2 (64 * k + t)) = b
        cases a <;> cases b <;> simp
      · rw [decide_eq_false (show ¬ 64 * k + t < n2 by omega)]; simp
    · rw [testBit_big (h2.word _) (by omega)]; simp

set_option maxRecDepth 100000 in
set_option maxHeartbeats 2000000 in
theorem isSuper_c (b1 g1 n1 b2 g2 n2 : Nat) (f1 f2 : Nat → Bool) (w : World) (h1 : BSet w b1 g1 n1 f1) (h2 : BSet w b2 g2 n2 f2) (hn1 : n1 ≤ 20000) (hn2 : n2 ≤ 20000) :
    Calls Try.prog 52 #[.pointer (some ⟨b1, 0, none⟩), .pointer (some ⟨b2, 0, none⟩)] w fun e w' => e = .returned (.bool (allB (max n1 n2) (fun j => (decide (j < n1) && f1 j) || !(decide (j < n2) && f2 j)))) ∧ w' = w := by
  obtain ⟨r, hr0⟩ : ∃ r, allB (max n1 n2) (fun j => (decide (j < n1) && f1 j) || !(decide (j < n2) && f2 j)) = r := ⟨_, rfl⟩
  rw [hr0]
  have HR := Lib.hid hr0
  have hb1 := h1
  have hb2 := h2
  obtain ⟨hne1, cap1, ws, hh1, hr1, hw1⟩ := h1
  obtain ⟨hne2, cap2, zs, hh2, hr2, hw2⟩ := h2
  have c11 := hh1.c1
  have c21 := hh2.c1
  have hl1 := hw1.length
  have hl2 := hw2.length
  have hbad := fun k => sup_bad (k := k) hw1 hw2
  rw [hr0] at hbad
  clear hr0
  obtain ⟨p1, hp1⟩ : ∃ p, ws.length = p := ⟨_, rfl⟩
  obtain ⟨p2, hp2⟩ : ∃ p, zs.length = p := ⟨_, rfl⟩
  have hcp2 := hr2.le
  rw [hp1] at hl1 c11
  rw [hp2] at hl2 c21 hcp2
  have hq1 : p1 ≤ 313 := by omega
  have hq2 : p2 ≤ 313 := by omega
  have HL1 := Lib.hid hl1; have HL2 := Lib.hid hl2; have HP1 := Lib.hid hp1; have HP2 := Lib.hid hp2; have HBAD := Lib.hid hbad
  clear hl1 hl2 hp1 hp2 hh1 hh2 hbad
  by_cases hle : p1 < p2
  · have le1 : (p1 : Int) < (p2 : Int) := by omega
    have le2 : decide (p1 < p2) = true := decide_eq_true hle
    have HLE := Lib.hid hle; clear hle
    have s0 : (0 : Int) ≤ (p1 : Int) := by omega
    have s1 : (p1 : Int) ≤ (cap2 : Int) := by have := HLE.out; omega
    have hst : Hid (∀ q, q < 0 → ws.getD q 0 &&& zs.getD q 0 = zs.getD q 0) := fun q h => by omega
    go_enter Try.func52, Try.ntmps52
    go_wp2_with fail
    refine (wordCount_c b2 g2 n2 f2 _ hb2 (by omega)).mono ?_
    rintro e w' ⟨rfl, rfl⟩
    rw [← HL2.out]
    go_wp2_with fail
    refine (wordCount_c b1 g1 n1 f1 _ hb1 (by omega)).mono ?_
    rintro e w' ⟨rfl, rfl⟩
    rw [← HL1.out]
    go_wp2_with fail
    refine (wordCount_c b1 g1 n1 f1 _ hb1 (by omega)).mono ?_
    rintro e w' ⟨rfl, rfl⟩
    rw [← HL1.out]
    go_wp2_with fail
    go_loop [23] (fun v => ∃ k : Nat, k ≤ p1 ∧ v = .int .i64 k ∧ Hid (∀ q, q < k → ws.getD q 0 &&& zs.getD q 0 = zs.getD q 0)) (fun v => p1 - (intOf v).toNat)
    case atStart => exact ⟨0, Nat.zero_le _, rfl, hst⟩
    case round =>
      obtain ⟨k, hk, rfl, hz⟩ := hrel
      by_cases hkm : k < p1
      · have hk1 : k < p1 ∧ k < p2 := by have := HLE.out; omega
        obtain ⟨hk1, hk2⟩ := hk1
        have cx := hr1.cell k (by rw [HP1.out]; exact hk1)
        have cy := hr2.cell k (by rw [HP2.out]; exact hk2)
        have i0 : (0 : Int) ≤ (k : Int) := by omega
        have i1 : (k : Int) < (p1 : Int) := by omega
        have i2 : (k : Int) < (p1 : Int) := by omega
        have hop := bits_and_nat (ws.getD k 0) (zs.getD k 0) (hw1.word k) (hw2.word k)
        by_cases hX : ws.getD k 0 &&& zs.getD k 0 = zs.getD k 0
        · have hz' : Hid (∀ q, q < k + 1 → ws.getD q 0 &&& zs.getD q 0 = zs.getD q 0) := fun q hq => by
            by_cases h : q = k
            · rw [h]; exact hX
            · exact hz.out q (by omega)
          rw [hX] at hop
          clear hX
          generalize ws.getD k 0 = X at *
          generalize zs.getD k 0 = Y at *
          go_wp2_with fail
          go_round
          case rel => exact ⟨k + 1, by omega, by go_num, hz'⟩
          case measure => simp [intOf]; omega
        · have hF : Hid (r = false) := HBAD.out k hX
          have hop2 : ¬ bits .and .u64 ((ws.getD k 0 : Nat) : Int) ((zs.getD k 0 : Nat) : Int) = ((zs.getD k 0 : Nat) : Int) := by rw [hop]; omega
          clear hop hX
          generalize ws.getD k 0 = X at *
          generalize zs.getD k 0 = Y at *
          go_wp2_with fail
          go_ret
          exact ⟨by rw [hF.out]; rfl, rfl⟩
      · have hkn : k = p1 := by omega
        have HK : Hid (k = min p1 p2) := by show k = min p1 p2; have := HLE.out; omega
        clear hkm
        subst hkn
        have i0 : (0 : Int) ≤ (k : Int) := by omega
        have i1 : (k : Int) ≤ (p2 : Int) := by omega
        have i2 : (p2 : Int) ≤ (cap2 : Int) := by omega
        have i3 : (k : Int) ≤ (cap2 : Int) := by omega
        go_wp2_with fail
        refine (popcntSlice_c g2 k (p2 - k) (cap2 - k) (fun j => zs.getD (k + j) 0) w (fun j => hw2.word _) (by omega) (fun j hj => hr2.cell (k + j) (by have := HP2.out; omega))).mono ?_
        rintro e w' ⟨rfl, rfl⟩
        obtain ⟨C, hC⟩ : ∃ C, sumN (fun j => pop (zs.getD (k + j) 0)) (p2 - k) = C := ⟨_, rfl⟩
        have hR : Hid ((C == 0) = r) := sup_end hw1 hw2 HP1.out HP2.out (by have := HK.out; omega) hz.out hC HR.out
        rw [hC]
        have hb : ((C : Int) == 0) = (C == 0) := by cases h : (C == 0) with
          | true => rw [beq_iff_eq] at h; rw [h]; rfl
          | false => rw [beq_eq_false_iff_ne] at h; exact beq_eq_false_iff_ne.2 (by omega)
        have HB := Lib.hid hb; clear hb hC
        go_wp2_with fail
        go_ret
        exact ⟨by rw [← hR.out, ← HB.out]; rfl, rfl⟩
  · have le1 : ¬ (p1 : Int) < (p2 : Int) := by omega
    have le2 : decide (p1 < p2) = false := decide_eq_false hle
    have HLE := Lib.hid hle; clear hle
    have s0 : (0 : Int) ≤ (p2 : Int) := by omega
    have s1 : (p2 : Int) ≤ (cap2 : Int) := by have := HLE.out; omega
    have hst : Hid (∀ q, q < 0 → ws.getD q 0 &&& zs.getD q 0 = zs.getD q 0) := fun q h => by omega
    go_enter Try.func52, Try.ntmps52
    go_wp2_with fail
    refine (wordCount_c b2 g2 n2 f2 _ hb2 (by omega)).mono ?_
    rintro e w' ⟨rfl, rfl⟩
    rw [← HL2.out]
    go_wp2_with fail
    refine (wordCount_c b1 g1 n1 f1 _ hb1 (by omega)).mono ?_
    rintro e w' ⟨rfl, rfl⟩
    rw [← HL1.out]
    go_wp2_with fail
    go_loop [23] (fun v => ∃ k : Nat, k ≤ p2 ∧ v = .int .i64 k ∧ Hid (∀ q, q < k → ws.getD q 0 &&& zs.getD q 0 = zs.getD q 0)) (fun v => p2 - (intOf v).toNat)
    case atStart => exact ⟨0, Nat.zero_le _, rfl, hst⟩
    case round =>
      obtain ⟨k, hk, rfl, hz⟩ := hrel
      by_cases hkm : k < p2
      · have hk1 : k < p1 ∧ k < p2 := by have := HLE.out; omega
        obtain ⟨hk1, hk2⟩ := hk1
        have cx := hr1.cell k (by rw [HP1.out]; exact hk1)
        have cy := hr2.cell k (by rw [HP2.out]; exact hk2)
        have i0 : (0 : Int) ≤ (k : Int) := by omega
        have i1 : (k : Int) < (p2 : Int) := by omega
        have i2 : (k : Int) < (p1 : Int) := by omega
        have hop := bits_and_nat (ws.getD k 0) (zs.getD k 0) (hw1.word k) (hw2.word k)
        by_cases hX : ws.getD k 0 &&& zs.getD k 0 = zs.getD k 0
        · have hz' : Hid (∀ q, q < k + 1 → ws.getD q 0 &&& zs.getD q 0 = zs.getD q 0) := fun q hq => by
            by_cases h : q = k
            · rw [h]; exact hX
            · exact hz.out q (by omega)
          rw [hX] at hop
          clear hX
          generalize ws.getD k 0 = X at *
          generalize zs.getD k 0 = Y at *
          go_wp2_with fail
          go_round
          case rel => exact ⟨k + 1, by omega, by go_num, hz'⟩
          case measure => simp [intOf]; omega
        · have hF : Hid (r = false) := HBAD.out k hX
          have hop2 : ¬ bits .and .u64 ((ws.getD k 0 : Nat) : Int) ((zs.getD k 0 : Nat) : Int) = ((zs.getD k 0 : Nat) : Int) := by rw [hop]; omega
          clear hop hX
          generalize ws.getD k 0 = X at *
          generalize zs.getD k 0 = Y at *
          go_wp2_with fail
          go_ret
          exact ⟨by rw [hF.out]; rfl, rfl⟩
      · have hkn : k = p2 := by omega
        have HK : Hid (k = min p1 p2) := by show k = min p1 p2; have := HLE.out; omega
        clear hkm
        subst hkn
        have i0 : (0 : Int) ≤ (k : Int) := by omega
        have i1 : (k : Int) ≤ (k : Int) := by omega
        have i2 : (k : Int) ≤ (cap2 : Int) := by omega
        have hR : Hid (((0 : Nat) == 0) = r) := sup_end hw1 hw2 HP1.out HP2.out (by have := HK.out; omega) hz.out (by rw [Nat.sub_self]; rfl) HR.out
        go_wp2_with fail
        · refine (popcntSlice_c g2 0 0 0 (fun j => zs.getD (k + j) 0) w (fun j => hw2.word _) (Nat.zero_le _) (fun j hj => absurd hj (Nat.not_lt_zero _))).mono ?_
          rintro e w' ⟨rfl, rfl⟩
          rw [show ∀ h : Nat → Nat, sumN h 0 = 0 from fun _ => rfl]
          go_wp2_with fail
          go_ret
          exact ⟨by rw [← hR.out]; rfl, rfl⟩
        · refine (popcntSlice_c g2 k 0 (cap2 - k) (fun j => zs.getD (k + j) 0) w (fun j => hw2.word _) (Nat.zero_le _) (fun j hj => absurd hj (Nat.not_lt_zero _))).mono ?_
          rintro e w' ⟨rfl, rfl⟩
          rw [show ∀ h : Nat → Nat, sumN h 0 = 0 from fun _ => rfl]
          go_wp2_with fail
          go_ret
          exact ⟨by rw [← hR.out]; rfl, rfl⟩
theorem isStrict_c (b1 g1 n1 b2 g2 n2 : Nat) (f1 f2 : Nat → Bool) (w : World) (h1 : BSet w b1 g1 n1 f1) (h2 : BSet w b2 g2 n2 f2) (hn1 : n1 ≤ 20000) (hn2 : n2 ≤ 20000) :
    Calls Try.prog 53 #[.pointer (some ⟨b1, 0, none⟩), .pointer (some ⟨b2, 0, none⟩)] w fun e w' => e = .returned (.bool (decide ((onL n2 f2).length < (onL n1 f1).length) && allB (max n1 n2) (fun j => (decide (j < n1) && f1 j) || !(decide (j < n2) && f2 j)))) ∧ w' = w := by
  obtain ⟨C1, hC1⟩ : ∃ C, (onL n1 f1).length = C := ⟨_, rfl⟩
  obtain ⟨C2, hC2⟩ : ∃ C, (onL n2 f2).length = C := ⟨_, rfl⟩
  obtain ⟨r, hr0⟩ : ∃ r, allB (max n1 n2) (fun j => (decide (j < n1) && f1 j) || !(decide (j < n2) && f2 j)) = r := ⟨_, rfl⟩
  rw [hC1, hC2, hr0]
  have H1 := Lib.hid hC1; have H2 := Lib.hid hC2; have HR := Lib.hid hr0
  clear hC1 hC2 hr0
  by_cases hlt : C2 < C1
  · have hi : (C2 : Int) < (C1 : Int) := by omega
    rw [decide_eq_true hlt, Bool.true_and]
    have hd : decide (C2 < C1) = true := decide_eq_true hlt
    go_enter Try.func53, Try.ntmps53
    go_wp2_with fail
    refine (count_c b1 g1 n1 f1 w h1 (by omega)).mono ?_
    rintro e w' ⟨rfl, rfl⟩
    rw [H1.out]
    go_wp2_with fail
    refine (count_c b2 g2 n2 f2 _ h2 (by omega)).mono ?_
    rintro e w' ⟨rfl, rfl⟩
    rw [H2.out]
    go_wp2_with fail
    refine (isSuper_c b1 g1 n1 b2 g2 n2 f1 f2 _ h1 h2 hn1 hn2).mono ?_
    rintro e w' ⟨rfl, rfl⟩
    rw [HR.out]
    go_wp2_with fail
    go_ret
    exact ⟨rfl, rfl⟩
  · have hi : ¬ (C2 : Int) < (C1 : Int) := by omega
    rw [decide_eq_false hlt, Bool.false_and]
    have hd : decide (C2 < C1) = false := decide_eq_false hlt
    go_enter Try.func53, Try.ntmps53
    go_wp2_with fail
    refine (count_c b1 g1 n1 f1 w h1 (by omega)).mono ?_
    rintro e w' ⟨rfl, rfl⟩
    rw [H1.out]
    go_wp2_with fail
    refine (count_c b2 g2 n2 f2 _ h2 (by omega)).mono ?_
    rintro e w' ⟨rfl, rfl⟩
    rw [H2.out]
    go_wp2_with fail
    go_ret
    exact ⟨rfl, rfl⟩

end Go.Proofs.Ytdngkdidelogbaa

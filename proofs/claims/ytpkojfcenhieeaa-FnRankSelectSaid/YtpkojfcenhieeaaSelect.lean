/-
  The contract of Select; for sets of at most 20001 bits.
-/
import Derived.Test.YtpkojfcenhieeaaSel
import Derived.Test.YtpkojfcenhieeaaMemo
namespace Go.Proofs.Ytpkojfcenhieeaa
set_option linter.unusedSimpArgs false
set_option linter.unusedVariables false
open Go.RowKit


/-- What Select tells. -/
def selV (n : Nat) (f : Nat → Bool) (k : Nat) : Nat := if k < (onL n f).length then (onL n f).getD k 0 else n
theorem selV_in {n k : Nat} {f : Nat → Bool} (h : k < (onL n f).length) : selV n f k = (onL n f).getD k 0 := if_pos h
theorem selV_out {n k : Nat} {f : Nat → Bool} (h : ¬ k < (onL n f).length) : selV n f k = n := if_neg h
theorem onL_getD_lt (n : Nat) (f : Nat → Bool) (k : Nat) (h : k < (onL n f).length) : (onL n f).getD k 0 < n := by
  rw [getD_in _ _ _ h]; exact onL_lt n f _ (List.getElem_mem _)
theorem selV_le (n k : Nat) (f : Nat → Bool) : selV n f k ≤ n := by
  by_cases h : k < (onL n f).length
  · rw [selV_in h]; exact Nat.le_of_lt (onL_getD_lt n f k h)
  · rw [selV_out h]; exact Nat.le_refl _
theorem sel_word (F : Nat → Bool) (M q v k : Nat) (hq : 64 * q + 64 ≤ M) (h : v + (onL (64 * q) F).length = k) (hv : v < (onL 64 (fun t => F (64 * q + t))).length) :
    (onL M F).getD k 0 = 64 * q + (onL 64 (fun t => F (64 * q + t))).getD v 0 ∧ k < (onL M F).length := by
  obtain ⟨r, hr⟩ := onL_prefix (64 * q + 64) M F hq
  rw [onL_add] at hr
  have e : k - (onL (64 * q) F).length = v := by rw [← h]; exact Nat.add_sub_cancel v _
  have hl : k < (onL (64 * q) F ++ (onL 64 (fun j => F (64 * q + j))).map (64 * q + ·)).length := by
    rw [List.length_append, List.length_map, ← h, Nat.add_comm]; exact Nat.add_lt_add_left hv _
  rw [hr]
  refine ⟨?_, by rw [List.length_append]; exact Nat.lt_of_lt_of_le hl (Nat.le_add_right _ _)⟩
  rw [getD_left _ _ _ hl, getD_right _ _ _ (by rw [← h]; exact Nat.le_add_left _ _), e, getD_map_add _ _ _ hv]

set_option maxHeartbeats 1000000 in
theorem select_c (b g n k : Nat) (f : Nat → Bool) (w : World) (h : BSet w b g n f) (hn : n ≤ 20001) (hk9 : k ≤ 9000) :
    Calls Try.prog 23 #[.pointer (some ⟨b, 0, none⟩), .int .u64 k] w fun e w' => e = .returned (.int .u64 (selV n f k : Nat)) ∧ w' = w := by
  obtain ⟨hne, cap, ws, hh, hr, hw⟩ := h
  have hl := hw.length
  have hle := hr.le
  have hc0 := hh.c0
  have hc1 := hh.c1
  obtain ⟨m, hm⟩ : ∃ m, ws.length = m := ⟨_, rfl⟩
  rw [hm] at hc1 hl hle
  have hm4 : m ≤ 400 := by omega
  obtain ⟨F, hF⟩ : ∃ F : Nat → Bool, F = fun j => decide (j < n) && f j := ⟨_, rfl⟩
  have hFn : onL (64 * m) F = onL n f := by
    rw [hF]
    refine onL_both _ _ _ _ fun j => ?_
    by_cases hj : j < n
    · rw [decide_eq_true hj, decide_eq_true (show j < 64 * m by omega)]; simp
    · rw [decide_eq_false hj]; simp
  have hbits : ∀ q, onL 64 (ws.getD q 0).testBit = onL 64 (fun t => F (64 * q + t)) := fun q => onL_congr 64 _ _ (fun t ht => by rw [hF]; exact hw.testAt q t ht)
  have hC : ∀ q, q < m → w.cell? ⟨g, q, none⟩ = some (.int .u64 (ws.getD q 0 : Nat)) := fun q hq => hr.cell q (by omega)
  obtain ⟨V, hV⟩ : ∃ V, selV n f k = V := ⟨_, rfl⟩
  rw [hV]
  have HC := Lib.hid hC; have HW := Lib.hid hw.word; have HFN := Lib.hid hFn; have HBT := Lib.hid hbits; have HV := Lib.hid hV
  clear hC hr hw hm hl hFn hbits hV hF
  go_enter Try.func23, Try.ntmps23
  go_wp2_with fail
  go_loop [15, 5] (fun iv lv => ∃ q v : Nat, q ≤ m ∧ v ≤ 9000 ∧ iv = .int .i64 q ∧ lv = .int .u64 v ∧ Hid (v + (onL (64 * q) F).length = k)) (fun iv _ => m - (intOf iv).toNat)
  case atStart => exact ⟨0, k, Nat.zero_le _, hk9, rfl, rfl, rfl⟩
  case round =>
    obtain ⟨q, v, hq, hv9, rfl, rfl, hr⟩ := hrel
    by_cases hqm : q < m
    · have cX := HC.out q hqm
      have hX := HW.out q
      have hB := HBT.out q
      have hpl := pop_le (ws.getD q 0)
      obtain ⟨P, hP⟩ : ∃ P, pop (ws.getD q 0) = P := ⟨_, rfl⟩
      rw [hP] at hpl
      have hP2 : (onL 64 (fun t => F (64 * q + t))).length = P := by rw [← hB]; exact hP
      generalize ws.getD q 0 = X at *
      have HP := Lib.hid hP; have HB := Lib.hid hB; have HP2 := Lib.hid hP2; clear hP hB hP2
      by_cases hvp : v < P
      · have hsw := sel_word F (64 * m) q v k (by omega) hr.out (by rw [HP2.out]; exact hvp)
        have hTl := onL_getD_lt 64 X.testBit v (by rw [HB.out, HP2.out]; exact hvp)
        obtain ⟨T, hT⟩ : ∃ T, (onL 64 X.testBit).getD v 0 = T := ⟨_, rfl⟩
        rw [hT] at hTl
        have hVV : V = 64 * q + T := by
          have h2 := hsw.2
          rw [HFN.out] at h2
          rw [← HV.out, selV_in h2, ← HFN.out, hsw.1, ← HB.out, hT]
        have HT := Lib.hid hT; have HVV := Lib.hid hVV; clear hT hsw hVV
        go_wp2_with fail
        refine (onesCount_c X hX _).mono ?_
        rintro e w' ⟨rfl, rfl⟩
        rw [HP.out]
        go_wp2_with fail
        refine (select64_c X v _ hX (by rw [HP.out]; exact hvp)).mono ?_
        rintro e w' ⟨rfl, rfl⟩
        rw [HT.out]
        go_wp2_with fail
        refine bodyPost_ret (v := .int .u64 (64 * q + T : Nat)) (by simp [results, Try.results23, go_sem] <;> omega) rfl ⟨by rw [HVV.out], rfl⟩
      · have R : (v - P) + (onL (64 * (q + 1)) F).length = k := by
          have h1 := hr.out
          rw [show 64 * (q + 1) = 64 * q + 64 by omega, onL_len_add, HP2.out, ← h1]
          generalize (onL (64 * q) F).length = Z
          omega
        have hvs : (v : Int) - (P : Int) = ((v - P : Nat) : Int) := by omega
        have HVS := Lib.hid hvs; have HR := Lib.hid R; clear R hvs
        go_wp2_with fail
        refine (onesCount_c X hX _).mono ?_
        rintro e w' ⟨rfl, rfl⟩
        rw [HP.out]
        go_wp2_with fail
        go_round
        case rel => exact ⟨q + 1, v - P, by omega, by omega, by go_num, by rw [HVS.out], HR⟩
        case measure => simp [intOf] <;> omega
    · obtain rfl : q = m := by omega
      have hVV : V = n := by
        rw [← HV.out]
        refine selV_out ?_
        rw [← HFN.out, ← hr.out]
        exact Nat.not_lt.2 (Nat.le_add_left _ _)
      have HVV := Lib.hid hVV; clear hVV
      go_wp2_with fail
      refine bodyPost_ret (v := .int .u64 (n : Nat)) (by simp [results, Try.results23, go_sem] <;> omega) rfl ⟨by rw [HVV.out], rfl⟩

end Go.Proofs.Ytpkojfcenhieeaa

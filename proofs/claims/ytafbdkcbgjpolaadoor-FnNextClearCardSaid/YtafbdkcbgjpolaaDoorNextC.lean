/-
  The contract of NextClear; for sets of at most 20001 bits.
-/
import Derived.Test.YtafbdkcbgjpolaaDoorNext
namespace Go.Proofs.YtafbdkcbgjpolaaDoor
set_option linter.unusedSimpArgs false
set_option linter.unusedVariables false
set_option maxRecDepth 100000
open Go.RowKit


theorem ctz_le (x : Nat) (hx : x < 2 ^ 64) : Lib.ctz 64 x ≤ 64 := by
  by_cases h : x = 0
  · subst h; decide
  · exact Nat.le_of_lt (ctz_bits x hx h).1
theorem tz0_c (w : World) : Calls Tryd.prog 38 #[.int .u64 0] w fun e w' => e = .returned (.int .i64 64) ∧ w' = w := by
  go_enter Tryd.func38, Tryd.ntmps38
  go_wp2
  go_ret
  exact ⟨rfl, rfl⟩
theorem tz_any (X : Nat) (hX : X < 2 ^ 64) (w : World) (hT : TabW w) : Calls Tryd.prog 38 #[.int .u64 X] w fun e w' => e = .returned (.int .i64 (Lib.ctz 64 X : Nat)) ∧ w' = w := by
  by_cases h : X = 0
  · subst h; exact tz0_c w
  · exact tz_c X hX h w hT
/-- The first clear bit of a word's upper part. -/
theorem clear_first (D s : Nat) (hs : s < 64) (hD : D < 2 ^ 64) (hDs : ∀ t, 64 ≤ t + s → D.testBit t = false) (hne : D ≠ down s ones) :
    Lib.ctz 64 (flipW D) + s < 64 ∧ D.testBit (Lib.ctz 64 (flipW D)) = false ∧ ∀ t, t < Lib.ctz 64 (flipW D) → D.testBit t = true := by
  have hV := flipW_lt D hD
  have hex : ∃ t, t + s < 64 ∧ D.testBit t = false := by
    apply Classical.byContradiction
    intro hno
    apply hne
    apply Nat.eq_of_testBit_eq
    intro t
    rw [testBit_down, testBit_ones]
    by_cases ht : t + s < 64
    · rw [decide_eq_true ht]
      cases hb : D.testBit t with
      | true => rfl
      | false => exact absurd ⟨t, ht, hb⟩ hno
    · rw [decide_eq_false ht]; exact hDs t (by omega)
  obtain ⟨t0, h1, h2⟩ := hex
  have hV0 : flipW D ≠ 0 := fun h => by
    have := testBit_flipW D t0 (by omega)
    rw [h, Nat.zero_testBit, h2] at this
    cases this
  obtain ⟨k1, k2, k3⟩ := ctz_bits _ hV hV0
  have hlt : Lib.ctz 64 (flipW D) ≤ t0 := by
    apply Classical.byContradiction
    intro h
    have := k3 t0 (by omega)
    rw [testBit_flipW D t0 (by omega), h2] at this
    cases this
  refine ⟨by omega, ?_, fun t ht => ?_⟩
  · rw [testBit_flipW _ _ k1] at k2
    cases h : D.testBit (Lib.ctz 64 (flipW D)) with
    | false => rfl
    | true => rw [h] at k2; cases k2
  · have := k3 t ht
    rw [testBit_flipW _ _ (by omega)] at this
    cases h : D.testBit t with
    | true => rfl
    | false => rw [h] at this; cases this
set_option maxHeartbeats 4000000 in
set_option maxRecDepth 100000 in
theorem nextClear_c (b g n i : Nat) (f : Nat → Bool) (w : World) (h : BSet w b g n f) (hn : n ≤ 20001) (hi : i < n) (hT : TabW w) :
    Calls Tryd.prog 28 #[.pointer (some ⟨b, 0, none⟩), .int .u64 i] w fun e w' => ∃ q, i ≤ q ∧ NoneIn n (fun j => !f j) i q ∧ ((q < n ∧ f q = false ∧ e = .returned (.tuple #[.int .u64 q, .bool true])) ∨ (n ≤ q ∧ e = .returned (.tuple #[.int .u64 0, .bool false]))) ∧ Kept [] w w' := by
  obtain ⟨hne, cap, ws, hh, hr, hw⟩ := h
  have hl := hw.length
  have hle := hr.le
  have hc0 := hh.c0
  have hc1 := hh.c1
  obtain ⟨m, hm⟩ : ∃ m, ws.length = m := ⟨_, rfl⟩
  rw [hm] at hc1 hl hle
  obtain ⟨p, hp⟩ : ∃ p, i / 64 = p := ⟨_, rfl⟩
  obtain ⟨s, hs⟩ : ∃ s, i % 64 = s := ⟨_, rfl⟩
  have hs64 : s < 64 := by omega
  have e1 : (i : Int) / 64 = (p : Int) := by omega
  have hm4 : m ≤ 400 := by omega
  have hin' : ¬ (n : Int) ≤ (i : Int) := by omega
  have hpm : p < m := by omega
  have hpm' : ¬ (m : Int) ≤ (p : Int) := by omega
  have hpmi : (p : Int) < (m : Int) := by omega
  have hp0 : (0 : Int) ≤ (p : Int) := by omega
  have cp := hr.cell p (by omega)
  have hX := hw.word p
  have hD : down s (ws.getD p 0) < 2 ^ 64 := down_lt _ _ hX
  have tD : ∀ t, t < 64 → (down s (ws.getD p 0)).testBit t = (decide (t + s < 64) && (decide (i + t < n) && f (i + t))) := fun t ht => by
    rw [testBit_down]
    by_cases c : t + s < 64
    · rw [hw.testAt p (t + s) c, decide_eq_true c, Bool.true_and, show 64 * p + (t + s) = i + t by omega]
    · rw [decide_eq_false c, Bool.false_and, testBit_big hX (by omega)]
  have hDs : ∀ t, 64 ≤ t + s → (down s (ws.getD p 0)).testBit t = false := fun t ht => by rw [testBit_down]; exact testBit_big hX (by omega)
  have hA : (18446744073709551615 : Int) / 2 ^ s = ((down s ones : Nat) : Int) := int_down s ones
  have hdn := int_down s (ws.getD p 0)
  have hC : ∀ q, q < m → w.cell? ⟨g, q, none⟩ = some (.int .u64 (ws.getD q 0 : Nat)) := fun q hq => hr.cell q (by omega)
  have hcl := ctz_le _ (flipW_lt _ hD)
  have hV := flipW_lt _ hD
  have hxv := bits_flip _ hD
  have hif : (if IntKind.u64.signed = true then (-1 : Int) else IntKind.u64.max) = 18446744073709551615 := rfl
  have hcf := clear_first _ s hs64 hD hDs
  obtain ⟨D, hDD⟩ : ∃ D, down s (ws.getD p 0) = D := ⟨_, rfl⟩
  rw [hDD] at hD tD hdn hcl hV hxv hcf
  obtain ⟨A, hAA⟩ : ∃ A, down s ones = A := ⟨_, rfl⟩
  rw [hAA] at hA hcf
  obtain ⟨c, hc⟩ : ∃ c, Lib.ctz 64 (flipW D) = c := ⟨_, rfl⟩
  rw [hc] at hcl hcf
  -- what is known of the bits below the next word
  have hnext : ¬ (D ≠ A ∧ i + c < n) → ∀ j, i ≤ j → j < 64 * (p + 1) → j < n → f j = true := fun hno j h1 h2 h3 => by
    have hb := tD (j - i) (by omega)
    rw [decide_eq_true (show j - i + s < 64 by omega), Bool.true_and, show i + (j - i) = j by omega, decide_eq_true h3, Bool.true_and] at hb
    rw [← hb]
    by_cases hDA : D = A
    · rw [hDA, ← hAA, testBit_down, testBit_ones, decide_eq_true (show j - i + s < 64 by omega)]
    · exact (hcf hDA).2.2 (j - i) (by have : ¬ i + c < n := fun h => hno ⟨hDA, h⟩; omega)
  have hfound : D ≠ A → i + c < n → f (i + c) = false ∧ NoneIn n (fun j => !f j) i (i + c) := fun hDA h1 => by
    obtain ⟨g1, g2, g3⟩ := hcf hDA
    have hb := tD c (by omega)
    rw [decide_eq_true g1, Bool.true_and, decide_eq_true h1, Bool.true_and] at hb
    refine ⟨by rw [← hb]; exact g2, fun j h2 h3 h4 => ?_⟩
    have hb := tD (j - i) (by omega)
    rw [decide_eq_true (show j - i + s < 64 by omega), Bool.true_and, show i + (j - i) = j by omega, decide_eq_true h4, Bool.true_and] at hb
    show (!f j) = false
    rw [← hb, g3 (j - i) (by omega)]; rfl
  have HC := Lib.hid hC; have HW := Lib.hid hw.word; have HTA := Lib.hid hw.testAt; have HS := Lib.hid hs; have HL := Lib.hid hl; have HI := Lib.hid (show i = 64 * p + s by omega); have HT := Lib.hid hT; have HA := Lib.hid hA; have HDN := Lib.hid hdn; have HXV := Lib.hid hxv; have HCC := Lib.hid hc; have HN := Lib.hid hnext; have HFO := Lib.hid hfound
  clear hC hw hr hm hs hl hT hA hdn hxv hc hnext hfound tD hDs hDD hAA hcf hp hh
  generalize ws.getD p 0 = X at *
  generalize flipW D = V at *
  have CALLS : True := trivial
  by_cases hgo : D ≠ A ∧ i + c < n
  · obtain ⟨hDA, hicn⟩ := hgo
    obtain ⟨g1, g2⟩ := HFO.out hDA hicn
    have hDA' : ¬ (D : Int) = (A : Int) := by omega
    have hicn' : (i : Int) + (c : Int) < (n : Int) := by omega
    clear HN HFO
    go_enter Tryd.func28, Tryd.ntmps28
    go_wp2_with fail
    refine (wordsIndex_c i (by omega) _).mono ?_
    rintro ex w' ⟨rfl, hw'⟩
    subst w'
    rw [HS.out]
    go_wp2_with fail
    (try rw [HDN.out])
    refine (wordsIndex_c i (by omega) _).mono ?_
    rintro ex w' ⟨rfl, hw'⟩
    subst w'
    rw [HS.out]
    go_wp2_with fail
    (try rw [HDN.out])
    (try rw [HA.out])
    (first | rw [HXV.out] | rw [HXA.out])
    refine (tz_any V hV _ HT.out).mono ?_
    rintro e w' ⟨rfl, hw'⟩
    subst hw'
    rw [HCC.out]
    go_wp2_with fail
    refine bodyPost_ret (v := .tuple #[.int .u64 (i + c : Nat), .bool true]) (by simp [results, Tryd.results28, go_sem] <;> omega) rfl ⟨i + c, Nat.le_add_right _ _, g2, .inl ⟨hicn, g1, rfl⟩, Kept.refl _ _⟩
  · have hz := HN.out hgo
    have HF := Lib.hid hz
    have f1 : (p : Int) + 1 ≤ (m : Int) := by omega
    have f2 : (m : Int) ≤ (cap : Int) := by omega
    clear HN HFO hz
    by_cases hcap : cap = p + 1
    · have hmp : m - (p + 1) = 0 := by omega
      by_cases hDA : D = A
      · have hDA' : (D : Int) = (A : Int) := by omega
        have hxa : bits .xor .u64 18446744073709551615 (A : Int) = (V : Int) := by rw [← hDA']; exact HXV.out
        have HXA := Lib.hid hxa; clear hxa
        go_enter Tryd.func28, Tryd.ntmps28
        go_wp2_with fail
        refine (wordsIndex_c i (by omega) _).mono ?_
        rintro ex w' ⟨rfl, hw'⟩
        subst w'
        rw [HS.out]
        go_wp2_with fail
        (try rw [HDN.out])
        refine (wordsIndex_c i (by omega) _).mono ?_
        rintro ex w' ⟨rfl, hw'⟩
        subst w'
        rw [HS.out]
        go_wp2_with fail
        (try rw [HDN.out])
        (try rw [HA.out])
        (first | rw [HXV.out] | rw [HXA.out])
        refine (tz_any V hV _ HT.out).mono ?_
        rintro e w' ⟨rfl, hw'⟩
        subst hw'
        rw [HCC.out]
        go_wp2_with fail
        go_loop [69] (fun v => ∃ k : Nat, k ≤ m - (p + 1) ∧ v = .int .i64 k ∧ Hid (∀ j, i ≤ j → j < 64 * (p + 1 + k) → j < n → f j = true)) (fun v => m - (p + 1) - (intOf v).toNat)
        case atStart => exact ⟨0, Nat.zero_le _, rfl, HF.out⟩
        case round =>
          obtain ⟨k, hk, rfl, hz2⟩ := hrel
          by_cases hkm : k < m - (p + 1)
          · exact absurd hkm (by omega)
          · obtain rfl : k = m - (p + 1) := by omega
            have hkm' : ¬ ((m - (p + 1) : Nat) : Int) < ((m - (p + 1) : Nat) : Int) := by omega
            have hlow : NoneIn n (fun j => !f j) i n := fun j h1 h2 h3 => by show (!f j) = false; rw [hz2.out j h1 (by have := HL.out; omega) h3]; rfl
            go_wp2_with fail
            refine bodyPost_ret (v := .tuple #[.int .u64 0, .bool false]) (by simp [results, Tryd.results28, go_sem]) rfl ⟨n, Nat.le_of_lt hi, hlow, .inr ⟨Nat.le_refl _, rfl⟩, Kept.refl _ _⟩
      · have hDA' : ¬ (D : Int) = (A : Int) := by omega
        have hicn' : ¬ (i : Int) + (c : Int) < (n : Int) := by
          have : ¬ i + c < n := fun h => hgo ⟨hDA, h⟩
          omega
        go_enter Tryd.func28, Tryd.ntmps28
        go_wp2_with fail
        refine (wordsIndex_c i (by omega) _).mono ?_
        rintro ex w' ⟨rfl, hw'⟩
        subst w'
        rw [HS.out]
        go_wp2_with fail
        (try rw [HDN.out])
        refine (wordsIndex_c i (by omega) _).mono ?_
        rintro ex w' ⟨rfl, hw'⟩
        subst w'
        rw [HS.out]
        go_wp2_with fail
        (try rw [HDN.out])
        (try rw [HA.out])
        (first | rw [HXV.out] | rw [HXA.out])
        refine (tz_any V hV _ HT.out).mono ?_
        rintro e w' ⟨rfl, hw'⟩
        subst hw'
        rw [HCC.out]
        go_wp2_with fail
        go_loop [69] (fun v => ∃ k : Nat, k ≤ m - (p + 1) ∧ v = .int .i64 k ∧ Hid (∀ j, i ≤ j → j < 64 * (p + 1 + k) → j < n → f j = true)) (fun v => m - (p + 1) - (intOf v).toNat)
        case atStart => exact ⟨0, Nat.zero_le _, rfl, HF.out⟩
        case round =>
          obtain ⟨k, hk, rfl, hz2⟩ := hrel
          by_cases hkm : k < m - (p + 1)
          · exact absurd hkm (by omega)
          · obtain rfl : k = m - (p + 1) := by omega
            have hkm' : ¬ ((m - (p + 1) : Nat) : Int) < ((m - (p + 1) : Nat) : Int) := by omega
            have hlow : NoneIn n (fun j => !f j) i n := fun j h1 h2 h3 => by show (!f j) = false; rw [hz2.out j h1 (by have := HL.out; omega) h3]; rfl
            go_wp2_with fail
            refine bodyPost_ret (v := .tuple #[.int .u64 0, .bool false]) (by simp [results, Tryd.results28, go_sem]) rfl ⟨n, Nat.le_of_lt hi, hlow, .inr ⟨Nat.le_refl _, rfl⟩, Kept.refl _ _⟩
    · by_cases hDA : D = A
      · have hDA' : (D : Int) = (A : Int) := by omega
        have hxa : bits .xor .u64 18446744073709551615 (A : Int) = (V : Int) := by rw [← hDA']; exact HXV.out
        have HXA := Lib.hid hxa; clear hxa
        go_enter Tryd.func28, Tryd.ntmps28
        go_wp2_with fail
        refine (wordsIndex_c i (by omega) _).mono ?_
        rintro ex w' ⟨rfl, hw'⟩
        subst w'
        rw [HS.out]
        go_wp2_with fail
        (try rw [HDN.out])
        refine (wordsIndex_c i (by omega) _).mono ?_
        rintro ex w' ⟨rfl, hw'⟩
        subst w'
        rw [HS.out]
        go_wp2_with fail
        (try rw [HDN.out])
        (try rw [HA.out])
        (first | rw [HXV.out] | rw [HXA.out])
        refine (tz_any V hV _ HT.out).mono ?_
        rintro e w' ⟨rfl, hw'⟩
        subst hw'
        rw [HCC.out]
        go_wp2_with fail
        go_loop [69] (fun v => ∃ k : Nat, k ≤ m - (p + 1) ∧ v = .int .i64 k ∧ Hid (∀ j, i ≤ j → j < 64 * (p + 1 + k) → j < n → f j = true)) (fun v => m - (p + 1) - (intOf v).toNat)
        case atStart => exact ⟨0, Nat.zero_le _, rfl, HF.out⟩
        case round =>
          obtain ⟨k, hk, rfl, hz2⟩ := hrel
          by_cases hkm : k < m - (p + 1)
          · have cX := HC.out (p + 1 + k) (by omega)
            have hX := HW.out (p + 1 + k)
            have tb := HTA.out (p + 1 + k)
            have b0 : (0 : Int) ≤ (k : Int) := by omega
            have b1 : (k : Int) < ((m - (p + 1) : Nat) : Int) := by omega
            generalize ws.getD (p + 1 + k) 0 = Y at *
            by_cases hY0 : Y = ones
            · have hY1 : (Y : Int) = 18446744073709551615 := by rw [hY0]; rfl
              have R : ∀ j, i ≤ j → j < 64 * (p + 1 + (k + 1)) → j < n → f j = true := fun j h1 h2 h3 => by
                by_cases h4 : j < 64 * (p + 1 + k)
                · exact hz2.out j h1 h4 h3
                · have := tb (j - 64 * (p + 1 + k)) (by omega)
                  rw [hY0, testBit_ones, decide_eq_true (show j - 64 * (p + 1 + k) < 64 by omega), show 64 * (p + 1 + k) + (j - 64 * (p + 1 + k)) = j by omega, decide_eq_true h3, Bool.true_and] at this
                  exact this.symm
              have HR := Lib.hid R; clear R tb
              go_wp2_with fail
              go_round
              case rel => exact ⟨k + 1, by omega, by go_num, HR⟩
              case measure => simp [intOf] <;> omega
            · have hY1 : ¬ (Y : Int) = 18446744073709551615 := fun h => hY0 (by unfold ones; omega)
              have hcf := clear_first Y 0 (by decide) hX (fun t ht => testBit_big hX (by omega)) (by unfold down; simpa using hY0)
              have hxv := bits_flip Y hX
              have hV2 := flipW_lt Y hX
              generalize flipW Y = V2 at *
              obtain ⟨c2, hc2⟩ : ∃ c, Lib.ctz 64 V2 = c := ⟨_, rfl⟩
              rw [hc2] at hcf
              obtain ⟨g1, g2, g3⟩ := hcf
              have HXV2 := Lib.hid hxv; have HC2 := Lib.hid hc2
              have hlow : ∀ j, i ≤ j → j < 64 * (p + 1 + k) + c2 → j < n → f j = true := fun j h1 h2 h3 => by
                by_cases h4 : j < 64 * (p + 1 + k)
                · exact hz2.out j h1 h4 h3
                · have := tb (j - 64 * (p + 1 + k)) (by omega)
                  rw [g3 _ (by omega), show 64 * (p + 1 + k) + (j - 64 * (p + 1 + k)) = j by omega, decide_eq_true h3, Bool.true_and] at this
                  exact this.symm
              have hiq : i ≤ 64 * (p + 1 + k) + c2 := by have := HI.out; omega
              by_cases hqn : 64 * (p + 1 + k) + c2 < n
              · have hfq : f (64 * (p + 1 + k) + c2) = false := by
                  have := tb c2 (by omega)
                  rw [g2, decide_eq_true hqn, Bool.true_and] at this
                  exact this.symm
                have hno : NoneIn n (fun j => !f j) i (64 * (p + 1 + k) + c2) := fun j h1 h2 h3 => by show (!f j) = false; rw [hlow j h1 h2 h3]; rfl
                have hqn' : 64 * ((p : Int) + 1 + (k : Int)) + (c2 : Int) < (n : Int) := by omega
                have hqn2 : ((p : Int) + 1 + (k : Int)) * 64 + (c2 : Int) < (n : Int) := by omega
                clear hxv hc2 tb hlow g2 g3
                go_wp2_with fail
                rw [HXV2.out]
                refine (tz_any V2 hV2 _ HT.out).mono ?_
                rintro e w' ⟨rfl, hw'⟩
                subst hw'
                rw [HC2.out]
                go_wp2_with fail
                refine bodyPost_ret (v := .tuple #[.int .u64 (64 * (p + 1 + k) + c2 : Nat), .bool true]) (by simp [results, Tryd.results28, go_sem] <;> omega) rfl ⟨64 * (p + 1 + k) + c2, hiq, hno, .inl ⟨hqn, hfq, rfl⟩, Kept.refl _ _⟩
              · have R : ∀ j, i ≤ j → j < 64 * (p + 1 + (k + 1)) → j < n → f j = true := fun j h1 h2 h3 => hlow j h1 (by omega) h3
                have HR := Lib.hid R; clear R hxv hc2 tb hlow g2 g3
                have hqn' : ¬ 64 * ((p : Int) + 1 + (k : Int)) + (c2 : Int) < (n : Int) := by omega
                have hqn2 : ¬ ((p : Int) + 1 + (k : Int)) * 64 + (c2 : Int) < (n : Int) := by omega
                go_wp2_with fail
                rw [HXV2.out]
                refine (tz_any V2 hV2 _ HT.out).mono ?_
                rintro e w' ⟨rfl, hw'⟩
                subst hw'
                rw [HC2.out]
                go_wp2_with fail
                go_round
                case rel => exact ⟨k + 1, by omega, by go_num, HR⟩
                case measure => simp [intOf] <;> omega
          · obtain rfl : k = m - (p + 1) := by omega
            have hkm' : ¬ ((m - (p + 1) : Nat) : Int) < ((m - (p + 1) : Nat) : Int) := by omega
            have hlow : NoneIn n (fun j => !f j) i n := fun j h1 h2 h3 => by show (!f j) = false; rw [hz2.out j h1 (by have := HL.out; omega) h3]; rfl
            go_wp2_with fail
            refine bodyPost_ret (v := .tuple #[.int .u64 0, .bool false]) (by simp [results, Tryd.results28, go_sem]) rfl ⟨n, Nat.le_of_lt hi, hlow, .inr ⟨Nat.le_refl _, rfl⟩, Kept.refl _ _⟩
      · have hDA' : ¬ (D : Int) = (A : Int) := by omega
        have hicn' : ¬ (i : Int) + (c : Int) < (n : Int) := by
          have : ¬ i + c < n := fun h => hgo ⟨hDA, h⟩
          omega
        go_enter Tryd.func28, Tryd.ntmps28
        go_wp2_with fail
        refine (wordsIndex_c i (by omega) _).mono ?_
        rintro ex w' ⟨rfl, hw'⟩
        subst w'
        rw [HS.out]
        go_wp2_with fail
        (try rw [HDN.out])
        refine (wordsIndex_c i (by omega) _).mono ?_
        rintro ex w' ⟨rfl, hw'⟩
        subst w'
        rw [HS.out]
        go_wp2_with fail
        (try rw [HDN.out])
        (try rw [HA.out])
        (first | rw [HXV.out] | rw [HXA.out])
        refine (tz_any V hV _ HT.out).mono ?_
        rintro e w' ⟨rfl, hw'⟩
        subst hw'
        rw [HCC.out]
        go_wp2_with fail
        go_loop [69] (fun v => ∃ k : Nat, k ≤ m - (p + 1) ∧ v = .int .i64 k ∧ Hid (∀ j, i ≤ j → j < 64 * (p + 1 + k) → j < n → f j = true)) (fun v => m - (p + 1) - (intOf v).toNat)
        case atStart => exact ⟨0, Nat.zero_le _, rfl, HF.out⟩
        case round =>
          obtain ⟨k, hk, rfl, hz2⟩ := hrel
          by_cases hkm : k < m - (p + 1)
          · have cX := HC.out (p + 1 + k) (by omega)
            have hX := HW.out (p + 1 + k)
            have tb := HTA.out (p + 1 + k)
            have b0 : (0 : Int) ≤ (k : Int) := by omega
            have b1 : (k : Int) < ((m - (p + 1) : Nat) : Int) := by omega
            generalize ws.getD (p + 1 + k) 0 = Y at *
            by_cases hY0 : Y = ones
            · have hY1 : (Y : Int) = 18446744073709551615 := by rw [hY0]; rfl
              have R : ∀ j, i ≤ j → j < 64 * (p + 1 + (k + 1)) → j < n → f j = true := fun j h1 h2 h3 => by
                by_cases h4 : j < 64 * (p + 1 + k)
                · exact hz2.out j h1 h4 h3
                · have := tb (j - 64 * (p + 1 + k)) (by omega)
                  rw [hY0, testBit_ones, decide_eq_true (show j - 64 * (p + 1 + k) < 64 by omega), show 64 * (p + 1 + k) + (j - 64 * (p + 1 + k)) = j by omega, decide_eq_true h3, Bool.true_and] at this
                  exact this.symm
              have HR := Lib.hid R; clear R tb
              go_wp2_with fail
              go_round
              case rel => exact ⟨k + 1, by omega, by go_num, HR⟩
              case measure => simp [intOf] <;> omega
            · have hY1 : ¬ (Y : Int) = 18446744073709551615 := fun h => hY0 (by unfold ones; omega)
              have hcf := clear_first Y 0 (by decide) hX (fun t ht => testBit_big hX (by omega)) (by unfold down; simpa using hY0)
              have hxv := bits_flip Y hX
              have hV2 := flipW_lt Y hX
              generalize flipW Y = V2 at *
              obtain ⟨c2, hc2⟩ : ∃ c, Lib.ctz 64 V2 = c := ⟨_, rfl⟩
              rw [hc2] at hcf
              obtain ⟨g1, g2, g3⟩ := hcf
              have HXV2 := Lib.hid hxv; have HC2 := Lib.hid hc2
              have hlow : ∀ j, i ≤ j → j < 64 * (p + 1 + k) + c2 → j < n → f j = true := fun j h1 h2 h3 => by
                by_cases h4 : j < 64 * (p + 1 + k)
                · exact hz2.out j h1 h4 h3
                · have := tb (j - 64 * (p + 1 + k)) (by omega)
                  rw [g3 _ (by omega), show 64 * (p + 1 + k) + (j - 64 * (p + 1 + k)) = j by omega, decide_eq_true h3, Bool.true_and] at this
                  exact this.symm
              have hiq : i ≤ 64 * (p + 1 + k) + c2 := by have := HI.out; omega
              by_cases hqn : 64 * (p + 1 + k) + c2 < n
              · have hfq : f (64 * (p + 1 + k) + c2) = false := by
                  have := tb c2 (by omega)
                  rw [g2, decide_eq_true hqn, Bool.true_and] at this
                  exact this.symm
                have hno : NoneIn n (fun j => !f j) i (64 * (p + 1 + k) + c2) := fun j h1 h2 h3 => by show (!f j) = false; rw [hlow j h1 h2 h3]; rfl
                have hqn' : 64 * ((p : Int) + 1 + (k : Int)) + (c2 : Int) < (n : Int) := by omega
                have hqn2 : ((p : Int) + 1 + (k : Int)) * 64 + (c2 : Int) < (n : Int) := by omega
                clear hxv hc2 tb hlow g2 g3
                go_wp2_with fail
                rw [HXV2.out]
                refine (tz_any V2 hV2 _ HT.out).mono ?_
                rintro e w' ⟨rfl, hw'⟩
                subst hw'
                rw [HC2.out]
                go_wp2_with fail
                refine bodyPost_ret (v := .tuple #[.int .u64 (64 * (p + 1 + k) + c2 : Nat), .bool true]) (by simp [results, Tryd.results28, go_sem] <;> omega) rfl ⟨64 * (p + 1 + k) + c2, hiq, hno, .inl ⟨hqn, hfq, rfl⟩, Kept.refl _ _⟩
              · have R : ∀ j, i ≤ j → j < 64 * (p + 1 + (k + 1)) → j < n → f j = true := fun j h1 h2 h3 => hlow j h1 (by omega) h3
                have HR := Lib.hid R; clear R hxv hc2 tb hlow g2 g3
                have hqn' : ¬ 64 * ((p : Int) + 1 + (k : Int)) + (c2 : Int) < (n : Int) := by omega
                have hqn2 : ¬ ((p : Int) + 1 + (k : Int)) * 64 + (c2 : Int) < (n : Int) := by omega
                go_wp2_with fail
                rw [HXV2.out]
                refine (tz_any V2 hV2 _ HT.out).mono ?_
                rintro e w' ⟨rfl, hw'⟩
                subst hw'
                rw [HC2.out]
                go_wp2_with fail
                go_round
                case rel => exact ⟨k + 1, by omega, by go_num, HR⟩
                case measure => simp [intOf] <;> omega
          · obtain rfl : k = m - (p + 1) := by omega
            have hkm' : ¬ ((m - (p + 1) : Nat) : Int) < ((m - (p + 1) : Nat) : Int) := by omega
            have hlow : NoneIn n (fun j => !f j) i n := fun j h1 h2 h3 => by show (!f j) = false; rw [hz2.out j h1 (by have := HL.out; omega) h3]; rfl
            go_wp2_with fail
            refine bodyPost_ret (v := .tuple #[.int .u64 0, .bool false]) (by simp [results, Tryd.results28, go_sem]) rfl ⟨n, Nat.le_of_lt hi, hlow, .inr ⟨Nat.le_refl _, rfl⟩, Kept.refl _ _⟩

end Go.Proofs.YtafbdkcbgjpolaaDoor

/-
  The contract of NextSet; for sets of at most 20001 bits.
-/
import Derived.Test.YtafbdkcbgjpolaaDoorTz
import Derived.Test.YtafbdkcbgjpolaaDoorPart
namespace Go.Proofs.YtafbdkcbgjpolaaDoor
set_option linter.unusedSimpArgs false
set_option linter.unusedVariables false
set_option maxRecDepth 100000
open Go.RowKit

/-- No bit is set from i on below q. -/
def NoneIn (n : Nat) (f : Nat → Bool) (i q : Nat) : Prop := ∀ j, i ≤ j → j < q → j < n → f j = false
theorem noneIn_of {n : Nat} {f : Nat → Bool} {i q : Nat} (h : ∀ j, i ≤ j → j < q → (decide (j < n) && f j) = false) : NoneIn n f i q := fun j h1 h2 h3 => by
  have := h j h1 h2
  rw [decide_eq_true h3, Bool.true_and] at this; exact this
set_option maxHeartbeats 2000000 in
set_option maxRecDepth 100000 in
theorem nextSet_c (b g n i : Nat) (f : Nat → Bool) (w : World) (h : BSet w b g n f) (hn : n ≤ 20001) (hi : i ≤ 20001) (hT : TabW w) :
    Calls Tryd.prog 27 #[.pointer (some ⟨b, 0, none⟩), .int .u64 i] w fun e w' => ∃ q, i ≤ q ∧ NoneIn n (f) i q ∧ ((q < n ∧ f q = true ∧ e = .returned (.tuple #[.int .u64 q, .bool true])) ∨ (n ≤ q ∧ e = .returned (.tuple #[.int .u64 0, .bool false]))) ∧ Kept [] w w' := by
  obtain ⟨hne, cap, ws, hh, hr, hw⟩ := h
  have hl := hw.length
  have hle := hr.le
  have hc1 := hh.c1
  obtain ⟨m, hm⟩ : ∃ m, ws.length = m := ⟨_, rfl⟩
  rw [hm] at hc1 hl hle
  obtain ⟨p, hp⟩ : ∃ p, i / 64 = p := ⟨_, rfl⟩
  obtain ⟨s, hs⟩ : ∃ s, i % 64 = s := ⟨_, rfl⟩
  have hs64 : s < 64 := by omega
  have hi64 : i % 64 < 64 := by omega
  have e1 : (i : Int) / 64 = (p : Int) := by omega
  have hm4 : m ≤ 400 := by omega
  by_cases hpm : p < m
  · have hpm' : ¬ (m : Int) ≤ (p : Int) := by omega
    have hpmi : (p : Int) < (m : Int) := by omega
    have hp0 : (0 : Int) ≤ (p : Int) := by omega
    have cp := hr.cell p (by omega)
    have hX := hw.word p
    have hD : down s (ws.getD p 0) < 2 ^ 64 := down_lt _ _ hX
    have hdn := int_down s (ws.getD p 0)
    have tD : ∀ t, t < 64 → (down s (ws.getD p 0)).testBit t = (decide (t + s < 64) && (decide (i + t < n) && f (i + t))) := fun t ht => by
      rw [testBit_down]
      by_cases c : t + s < 64
      · rw [hw.testAt p (t + s) c, decide_eq_true c, Bool.true_and, show 64 * p + (t + s) = i + t by omega]
      · rw [decide_eq_false c, Bool.false_and, testBit_big hX (by omega)]
    by_cases hD0 : down s (ws.getD p 0) = 0
    · have hfirst : ∀ j, i ≤ j → j < 64 * (p + 1) → (decide (j < n) && f j) = false := fun j h1 h2 => by
        have := tD (j - i) (by omega)
        rw [hD0, Nat.zero_testBit, decide_eq_true (show j - i + s < 64 by omega), Bool.true_and, show i + (j - i) = j by omega] at this
        exact this.symm
      have hz : ((ws.getD p 0 : Nat) : Int) / 2 ^ (i % 64) = 0 := by rw [hs, hdn, hD0]; rfl
      have hC : ∀ q, q < m → w.cell? ⟨g, q, none⟩ = some (.int .u64 (ws.getD q 0 : Nat)) := fun q hq => hr.cell q (by omega)
      have HC := Lib.hid hC; have HW := Lib.hid hw.word; have HTA := Lib.hid hw.testAt; have HF := Lib.hid hfirst; have HS := Lib.hid hs; have HL := Lib.hid hl; have HI := Lib.hid (show i = 64 * p + s by omega); have HT := Lib.hid hT
      clear hC hw hr hm hfirst hs hl tD hdn hD0 hD hp hh hT
      generalize ws.getD p 0 = X at *
      have f1 : (p : Int) + 1 ≤ (m : Int) := by omega
      have f2 : (m : Int) ≤ (cap : Int) := by omega
      go_enter Tryd.func27, Tryd.ntmps27
      go_wp2_with fail
      go_quiet ((go_at_call 37; exact Calls.quiet_of_same (wordsIndex_q i (by omega) _)))
      by_cases hcap : cap = p + 1
      · have hmp : m - (p + 1) = 0 := by omega
        go_wp2_with fail
        go_loop [46] (fun v => ∃ k : Nat, k ≤ m - (p + 1) ∧ v = .int .i64 k ∧ Hid (∀ j, i ≤ j → j < 64 * (p + 1 + k) → (decide (j < n) && f j) = false)) (fun v => m - (p + 1) - (intOf v).toNat)
        case atStart => exact ⟨0, Nat.zero_le _, rfl, HF.out⟩
        case round =>
          obtain ⟨k, hk, rfl, hz2⟩ := hrel
          clear hz cp
          by_cases hkm : k < m - (p + 1)
          · exact absurd hkm (by omega)
          · obtain rfl : k = m - (p + 1) := by omega
            have hkm' : ¬ ((m - (p + 1) : Nat) : Int) < ((m - (p + 1) : Nat) : Int) := by omega
            have hlow : ∀ j, i ≤ j → j < max i n → (decide (j < n) && f j) = false := fun j h1 h2 => by
              by_cases hj : j < n
              · exact hz2.out j h1 (by have := HL.out; omega)
              · rw [decide_eq_false hj, Bool.false_and]
            have HLO := Lib.hid hlow; clear hlow
            go_wp2_with fail
            refine bodyPost_ret (v := .tuple #[.int .u64 0, .bool false]) (by simp [results, Tryd.results27, go_sem]) rfl ⟨max i n, by omega, noneIn_of HLO.out, .inr ⟨by omega, rfl⟩, (Kept.refl _ _).drewN _⟩
      · go_wp2_with fail
        go_loop [46] (fun v => ∃ k : Nat, k ≤ m - (p + 1) ∧ v = .int .i64 k ∧ Hid (∀ j, i ≤ j → j < 64 * (p + 1 + k) → (decide (j < n) && f j) = false)) (fun v => m - (p + 1) - (intOf v).toNat)
        case atStart => exact ⟨0, Nat.zero_le _, rfl, HF.out⟩
        case round =>
          obtain ⟨k, hk, rfl, hz2⟩ := hrel
          clear hz cp
          by_cases hkm : k < m - (p + 1)
          · have cX := HC.out (p + 1 + k) (by omega)
            have hX := HW.out (p + 1 + k)
            have tb := HTA.out (p + 1 + k)
            have b0 : (0 : Int) ≤ (k : Int) := by omega
            have b1 : (k : Int) < ((m - (p + 1) : Nat) : Int) := by omega
            generalize ws.getD (p + 1 + k) 0 = Y at *
            by_cases hY0 : Y = 0
            · subst hY0
              have R : ∀ j, i ≤ j → j < 64 * (p + 1 + (k + 1)) → (decide (j < n) && f j) = false := fun j h1 h2 => by
                by_cases h3 : j < 64 * (p + 1 + k)
                · exact hz2.out j h1 h3
                · have := tb (j - 64 * (p + 1 + k)) (by omega)
                  rw [Nat.zero_testBit, show 64 * (p + 1 + k) + (j - 64 * (p + 1 + k)) = j by omega] at this
                  exact this.symm
              have HR := Lib.hid R; clear R tb
              go_wp2_with fail
              go_round
              case rel => exact ⟨k + 1, by omega, by go_num, HR⟩
              case measure => simp [intOf] <;> omega
            · obtain ⟨k1, k2, k3⟩ := ctz_bits Y hX hY0
              obtain ⟨c, hc⟩ : ∃ c, Lib.ctz 64 Y = c := ⟨_, rfl⟩
              rw [hc] at k1 k2 k3
              have hq := tb c k1
              rw [k2] at hq
              obtain ⟨h1, h2⟩ := Bool.and_eq_true_iff.1 hq.symm
              have h1 := of_decide_eq_true h1
              have hlow : ∀ j, i ≤ j → j < 64 * (p + 1 + k) + c → (decide (j < n) && f j) = false := fun j h5 h6 => by
                by_cases h3 : j < 64 * (p + 1 + k)
                · exact hz2.out j h5 h3
                · have := tb (j - 64 * (p + 1 + k)) (by omega)
                  rw [k3 _ (by omega), show 64 * (p + 1 + k) + (j - 64 * (p + 1 + k)) = j by omega] at this
                  exact this.symm
              have hY1 : ¬ (Y : Int) = 0 := by omega
              have hiq : i ≤ 64 * (p + 1 + k) + c := by have := HI.out; omega
              have HC2 := Lib.hid hc; have HLO := Lib.hid hlow
              clear hq k2 k3 hlow hc tb
              go_wp2_with fail
              refine (tz_c Y hX hY0 _ (HT.out.kept0 ((Kept.refl _ _).drewN _))).mono ?_
              rintro e w' ⟨rfl, hw'⟩
              subst hw'
              rw [HC2.out]
              go_wp2_with fail
              refine bodyPost_ret (v := .tuple #[.int .u64 (64 * (p + 1 + k) + c : Nat), .bool true]) (by simp [results, Tryd.results27, go_sem] <;> omega) rfl ⟨64 * (p + 1 + k) + c, hiq, noneIn_of HLO.out, .inl ⟨h1, h2, rfl⟩, (Kept.refl _ _).drewN _⟩
          · obtain rfl : k = m - (p + 1) := by omega
            have hkm' : ¬ ((m - (p + 1) : Nat) : Int) < ((m - (p + 1) : Nat) : Int) := by omega
            have hlow : ∀ j, i ≤ j → j < max i n → (decide (j < n) && f j) = false := fun j h1 h2 => by
              by_cases hj : j < n
              · exact hz2.out j h1 (by have := HL.out; omega)
              · rw [decide_eq_false hj, Bool.false_and]
            have HLO := Lib.hid hlow; clear hlow
            go_wp2_with fail
            refine bodyPost_ret (v := .tuple #[.int .u64 0, .bool false]) (by simp [results, Tryd.results27, go_sem]) rfl ⟨max i n, by omega, noneIn_of HLO.out, .inr ⟨by omega, rfl⟩, (Kept.refl _ _).drewN _⟩
    · obtain ⟨k1, k2, k3⟩ := ctz_bits _ hD hD0
      have hD1 : ¬ ((ws.getD p 0 : Nat) : Int) / 2 ^ (i % 64) = 0 := by rw [hs, hdn]; omega
      have hdn2 : ((ws.getD p 0 : Nat) : Int) / 2 ^ (i % 64) = ((down s (ws.getD p 0) : Nat) : Int) := by rw [hs, hdn]
      obtain ⟨c, hc⟩ : ∃ c, Lib.ctz 64 (down s (ws.getD p 0)) = c := ⟨_, rfl⟩
      rw [hc] at k1 k2 k3
      have hq := tD c k1
      rw [k2] at hq
      obtain ⟨h1, h2⟩ := Bool.and_eq_true_iff.1 hq.symm
      obtain ⟨h3, h4⟩ := Bool.and_eq_true_iff.1 h2
      have h1 := of_decide_eq_true h1
      have h3 := of_decide_eq_true h3
      have hlow : ∀ j, i ≤ j → j < i + c → (decide (j < n) && f j) = false := fun j h5 h6 => by
        have := tD (j - i) (by omega)
        rw [k3 (j - i) (by omega), decide_eq_true (show j - i + s < 64 by omega), Bool.true_and, show i + (j - i) = j by omega] at this
        exact this.symm
      have HS := Lib.hid hs; have HC := Lib.hid hc; have HLO := Lib.hid hlow; have HT := Lib.hid hT; have HDN := Lib.hid hdn2
      clear hdn2 tD hq h2 k2 k3 hlow hs hc hw hr hm hl hp hh hT hdn hX
      generalize down s (ws.getD p 0) = D at *
      generalize ws.getD p 0 = X at *
      go_enter Tryd.func27, Tryd.ntmps27
      go_wp2_with fail
      go_quiet ((go_at_call 37; exact Calls.quiet_of_same (wordsIndex_q i (by omega) _)))
      go_wp2_with fail
      rw [HDN.out]
      refine (tz_c D hD hD0 _ (HT.out.kept0 ((Kept.refl _ _).drewN _))).mono ?_
      rintro e w' ⟨rfl, hw'⟩
      subst hw'
      rw [HC.out]
      go_wp2_with fail
      refine bodyPost_ret (v := .tuple #[.int .u64 (i + c : Nat), .bool true]) (by simp [results, Tryd.results27, go_sem] <;> omega) rfl ⟨i + c, Nat.le_add_right _ _, noneIn_of HLO.out, .inl ⟨h3, h4, rfl⟩, (Kept.refl _ _).drewN _⟩
  · have hpm' : (m : Int) ≤ (p : Int) := by omega
    have hlow : ∀ j, i ≤ j → j < i → (decide (j < n) && f j) = false := fun j h5 h6 => by omega
    clear hw hr hT
    go_enter Tryd.func27, Tryd.ntmps27
    go_wp2_with fail
    refine bodyPost_ret (v := .tuple #[.int .u64 0, .bool false]) (by simp [results, Tryd.results27, go_sem]) rfl ⟨i, Nat.le_refl _, noneIn_of hlow, .inr ⟨by omega, rfl⟩, Kept.refl _ _⟩

end Go.Proofs.YtafbdkcbgjpolaaDoor

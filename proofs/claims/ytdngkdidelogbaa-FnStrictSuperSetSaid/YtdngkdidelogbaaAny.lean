/-
  The contracts of None, Any and All, for sets of at most 20000 bits.
-/
import Derived.Test.YtdngkdidelogbaaCntB
namespace Go.Proofs.Ytdngkdidelogbaa
set_option linter.unusedSimpArgs false
set_option linter.unusedVariables false
open Go.RowKit


theorem pop_zero : pop 0 = 0 := by decide
theorem pop_pos (x : Nat) (hx : x < 2 ^ 64) (h : x ≠ 0) : 1 ≤ pop x := by
  have hex : ∃ t, x.testBit t = true := Classical.byContradiction fun hno => h (Nat.eq_of_testBit_eq fun i => by
    rw [Nat.zero_testBit]
    cases hb : x.testBit i with
    | false => rfl
    | true => exact absurd ⟨i, hb⟩ hno)
  obtain ⟨t, ht⟩ := hex
  have ht64 : t < 64 := by
    by_cases h1 : t < 64
    · exact h1
    · rw [testBit_big hx (by omega)] at ht; cases ht
  exact List.length_pos_of_mem (a := t) (by unfold onL; rw [List.mem_filter]; exact ⟨List.mem_range.2 ht64, ht⟩)
theorem sumN_zero (h : Nat → Nat) (m : Nat) (e : ∀ j, j < m → h j = 0) : sumN h m = 0 := by
  induction m with
  | zero => rfl
  | succ m ih => unfold sumN; rw [ih (fun j hj => e j (by omega)), e m (by omega)]
theorem sumN_pos (h : Nat → Nat) (m k : Nat) (hk : k < m) (e : 1 ≤ h k) : 1 ≤ sumN h m := by
  induction m with
  | zero => omega
  | succ m ih =>
    unfold sumN
    by_cases hkm : k = m
    · subst hkm; omega
    · have := ih (by omega); omega

set_option maxHeartbeats 1000000 in
theorem none_c (b g n : Nat) (f : Nat → Bool) (w : World) (h : BSet w b g n f) (hn : n ≤ 20001) :
    Calls Try.prog 55 #[.pointer (some ⟨b, 0, none⟩)] w fun e w' => e = .returned (.bool (decide ((onL n f).length = 0))) ∧ w' = w := by
  obtain ⟨hne, cap, ws, hh, hr, hw⟩ := h
  have hl := hw.length
  have hc1 := hh.c1
  have hcnt := count_set hw
  have hnil := fun (wx : World) (a : Addr) (n c : Nat) => Go.run_neq_slice_nil_any (P := Try.prog) wx 64 68 (some a) n c 0 0 Try.underlying64
  simp only [Option.isNone] at hnil
  obtain ⟨m, hm⟩ : ∃ m, ws.length = m := ⟨_, rfl⟩
  rw [hm] at hcnt hl hc1
  have hm4 : m ≤ 400 := by omega
  obtain ⟨r, hr0⟩ : ∃ r, decide ((onL n f).length = 0) = r := ⟨_, rfl⟩
  rw [hr0]
  have HR := Lib.hid hr0; have HM := Lib.hid hm; have HC := Lib.hid hcnt
  have hwl := Lib.hid hw.word
  clear hr0 hm hcnt hl
  have hst : Hid (∀ q, q < 0 → ws.getD q 0 = 0) := fun q h => by omega
  go_enter Try.func55, Try.ntmps55
  go_wp2_with (go_at_call 74; refine (panicIfNull_c _ _).mono ?_; rintro e w' ⟨rfl, rfl⟩)
  go_loop [21] (fun v => ∃ k : Nat, k ≤ m ∧ v = .int .i64 k ∧ Hid (∀ q, q < k → ws.getD q 0 = 0)) (fun v => m - (intOf v).toNat)
  case atStart => exact ⟨0, Nat.zero_le _, rfl, hst⟩
  case round =>
    obtain ⟨k, hk, rfl, hz⟩ := hrel
    by_cases hkm : k < m
    · have cx := hr.cell k (by rw [HM.out]; exact hkm)
      have i0 : (0 : Int) ≤ (k : Int) := by omega
      have i1 : (k : Int) < (m : Int) := by omega
      by_cases hX : ws.getD k 0 = 0
      · rw [hX] at cx
        have hz' : Hid (∀ q, q < k + 1 → ws.getD q 0 = 0) := fun q hq => by
          by_cases h : q = k
          · rw [h]; exact hX
          · exact hz.out q (by omega)
        clear hX
        go_wp2_with fail
        go_round
        case rel => exact ⟨k + 1, by omega, by go_num, hz'⟩
        case measure => simp [intOf]; omega
      · have hF : Hid (r = false) := by
          show r = false
          rw [← HR.out, ← HC.out]
          refine decide_eq_false fun h => ?_
          have := sumN_pos (fun q => pop (ws.getD q 0)) m k hkm (pop_pos _ (hwl.out k) hX)
          omega
        have hXi : (0 : Int) < ((ws.getD k 0 : Nat) : Int) := by omega
        generalize ws.getD k 0 = X at *
        clear hX
        go_wp2_with fail
        go_ret
        exact ⟨by rw [hF.out]; rfl, rfl⟩
    · have hkn : k = m := by omega
      subst hkn
      have hT : Hid (r = true) := by
        show r = true
        rw [← HR.out, ← HC.out]
        exact decide_eq_true (sumN_zero _ _ fun j hj => by show pop (ws.getD j 0) = 0; rw [hz.out j hj]; exact pop_zero)
      go_wp2_with fail
      go_ret
      exact ⟨by rw [hT.out]; rfl, rfl⟩
theorem any_c (b g n : Nat) (f : Nat → Bool) (w : World) (h : BSet w b g n f) (hn : n ≤ 20001) :
    Calls Try.prog 54 #[.pointer (some ⟨b, 0, none⟩)] w fun e w' => e = .returned (.bool (!decide ((onL n f).length = 0))) ∧ w' = w := by
  obtain ⟨r, hr0⟩ : ∃ r, decide ((onL n f).length = 0) = r := ⟨_, rfl⟩
  rw [hr0]
  have HR := Lib.hid hr0; clear hr0
  go_enter Try.func54, Try.ntmps54
  go_wp2_with (go_at_call 74; refine (panicIfNull_c _ _).mono ?_; rintro e w' ⟨rfl, rfl⟩)
  refine (none_c b g n f w h hn).mono ?_
  rintro e w' ⟨rfl, rfl⟩
  rw [HR.out]
  go_wp2_with fail
  go_ret
  exact ⟨rfl, rfl⟩
set_option maxHeartbeats 1000000 in
theorem all_c (b g n : Nat) (f : Nat → Bool) (w : World) (h : BSet w b g n f) (hn : n ≤ 20001) :
    Calls Try.prog 56 #[.pointer (some ⟨b, 0, none⟩)] w fun e w' => e = .returned (.bool (decide ((onL n f).length = n))) ∧ Kept [] w w' := by
  obtain ⟨C, hC⟩ : ∃ C, (onL n f).length = C := ⟨_, rfl⟩
  have hcount : ∀ k, Calls Try.prog 46 #[.pointer (some ⟨b, 0, none⟩)] (w.drewN k) fun e w' => e = .returned (.int .u64 (C : Nat)) ∧ w' = w.drewN k := fun k => by rw [← hC]; exact count_c b g n f _ h hn
  have hc0 : w.cell? ⟨b, 0, none⟩ = some (.int .u64 n) := by obtain ⟨_, cap, ws, hh, _, _⟩ := h; exact hh.c0
  rw [hC]
  clear hC h
  have he : ((C : Int) == (n : Int)) = decide (C = n) := by
    by_cases h : C = n
    · rw [decide_eq_true h, h]; simp
    · rw [decide_eq_false h]; simp; omega
  have HE := Lib.hid he; clear he
  go_enter Try.func56, Try.ntmps56
  go_wp2_with (go_at_call 74; refine (panicIfNull_c _ _).mono ?_; rintro e w' ⟨rfl, rfl⟩)
  go_quiet ((go_at_call 46; exact Calls.quiet_of_same (hcount _)))
  go_wp2_with fail
  go_ret
  exact ⟨by rw [← HE.out]; rfl, (Kept.refl _ _).drewN _⟩

end Go.Proofs.Ytdngkdidelogbaa

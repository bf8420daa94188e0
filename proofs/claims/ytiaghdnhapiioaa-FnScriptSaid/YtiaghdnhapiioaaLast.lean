/-
  The contracts of cleanLastWord, SetAll and Complement; for sets of at most 20000 bits.
-/
import Derived.Test.YtiaghdnhapiioaaPart
import Derived.Test.YtiaghdnhapiioaaAlike
import Derived.Test.YtiaghdnhapiioaaTwo
import Derived.Test.YtiaghdnhapiioaaNew
namespace Go.Proofs.Ytiaghdnhapiioaa
set_option linter.unusedSimpArgs false
set_option linter.unusedVariables false
open Go.RowKit

theorem wordsIndexY_q (x : Int) (h0 : 0 ≤ x) (hi : x ≤ 40000) (w : World) :
    Calls Try.prog 63 #[.int .u64 x] w fun e w' => e = .returned (.int .u64 (x % 64)) ∧ w' = w := by
  obtain ⟨k, rfl⟩ := Int.eq_ofNat_of_zero_le h0
  refine (wordsIndex_c k (by omega) w).mono fun _ _ h => ⟨?_, h.2.symm⟩
  rw [h.1]; simp

theorem isMult_c (b n : Nat) (w : World) (hc : w.cell? ⟨b, 0, none⟩ = some (.int .u64 n)) (hn : n ≤ 20001) :
    Calls Try.prog 74 #[.pointer (some ⟨b, 0, none⟩)] w fun e w' => e = .returned (.bool (decide (n % 64 = 0))) ∧ w = w' := by
  go_enter Try.func74, Try.ntmps74
  go_wp2_with (go_at_call 63; refine (wordsIndex_c n (by omega) _).mono ?_; rintro e w' ⟨rfl, rfl⟩)
  have e : ((n : Int) % 64 == 0) = decide (n % 64 = 0) := by
    by_cases h : n % 64 = 0
    · rw [decide_eq_true h, beq_iff_eq]; omega
    · rw [decide_eq_false h, beq_eq_false_iff_ne]; omega
  go_ret
  exact ⟨by simp [e], rfl⟩

set_option maxHeartbeats 1000000 in
set_option maxRecDepth 100000 in
theorem cleanLastWord_c (b g n cap : Nat) (f : Nat → Bool) (ws : List Nat) (w : World) (hne : b ≠ g) (hh : Hdr w b n g ws.length cap) (hr : URow w g ws cap) (hw : Loose ws n f) (hn : n ≤ 20000) :
    Calls Try.prog 66 #[.pointer (some ⟨b, 0, none⟩)] w fun e w' => e = .returned (.tuple #[]) ∧ BSet w' b g n f ∧ Kept [g] w w' := by
  have hc0 := hh.c0
  by_cases hmod : n % 64 = 0
  · have hd : decide (n % 64 = 0) = true := by simpa using hmod
    go_enter Try.func66, Try.ntmps66
    go_wp2_with fail
    refine (isMult_c b n w hc0 (by omega)).mono ?_
    rintro e w' ⟨rfl, rfl⟩
    rw [hd]
    clear hmod
    go_wp2_with fail
    go_end0
    exact ⟨rfl, ⟨hne, cap, ws, hh, hr, hw.exact (by simpa using hd)⟩, Kept.refl _ _⟩
  · have hd : decide (n % 64 = 0) = false := by simpa using hmod
    have hl := hw.length
    obtain ⟨m, hm⟩ : ∃ m, ws.length = m := ⟨_, rfl⟩
    have hcl := hw.clean hmod (m - 1) (by omega)
    have hx := hr.cell (m - 1) (by omega)
    have hf := hr.free (m - 1)
    have hXlt : ws.getD (m - 1) 0 < 2 ^ 64 := getD_lt hw.lt _
    have hr3 := hr.set (m - 1) (ws.getD (m - 1) 0 % 2 ^ (n % 64))
    rw [hm] at hl hh
    have hle : m ≤ cap := by rw [← hm]; exact hr.le
    have hc1 := hh.c1
    have hm0 : 1 ≤ m ∧ m ≤ 313 := by omega
    have HM := Lib.hid hm; clear hm
    have i1 : (0 : Int) ≤ (m : Int) - 1 := by omega
    have i5 : (1 : Int) ≤ (m : Int) := by omega
    have i2 : (m : Int) - 1 < (m : Int) := by omega
    have i3 : ((m : Int) - 1).toNat = m - 1 := by omega
    have i4 : IntKind.i64.wrap ((m : Int) - 1) = (m : Int) - 1 := by rw [IntKind.wrap_i64]; omega
    generalize ws.getD (m - 1) 0 = X at *
    obtain ⟨y, hy⟩ : ∃ y, n % 64 = y := ⟨_, rfl⟩
    have hy1 : (n : Int) % 64 = (y : Int) := by omega
    have hy3 : (0 : Int) < (y : Int) := by omega
    have hy4 : (y : Int) < 64 := by omega
    have hy5 : ((64 : Int) - (y : Int)).toNat = 64 - y := by omega
    have hy6 : ¬ (y : Int) = 0 := by omega
    have hy7 : min (64 - y) 64 = 64 - y := by omega
    have hy8 : IntKind.u64.wrap ((64 : Int) - (y : Int)) = (64 : Int) - (y : Int) := by rw [IntKind.wrap_u64]; omega
    rw [hy] at hcl hr3
    have HO := Lib.hid (mask_word X y hXlt (by omega) (by omega))
    have hk : Kept [g] w (w.setCell ⟨g, m - 1, none⟩ (.int .u64 ((X % 2 ^ y : Nat) : Int))) := (Kept.refl _ _).setCell (by left; simp) _
    have hh3 := hh.other (o := m - 1) hne (.int .u64 ((X % 2 ^ y : Nat) : Int))
    have HY1 := Lib.hid hy1; clear hy1 hy
    clear hmod hl hw hr
    go_enter Try.func66, Try.ntmps66
    go_wp2_with fail
    refine (isMult_c b n w hc0 (by omega)).mono ?_
    rintro e w' ⟨rfl, rfl⟩
    rw [hd]
    clear hd
    go_wp2_with fail
    refine wp_region_held_drew (S := fun w' => w'.cell? ⟨b, 0, none⟩ = some (.int .u64 (n : Int)) ∧ w'.cell? ⟨b, 1, none⟩ = some (.slice (some ⟨g, 0, none⟩) m cap)) (by kernel_rfl) ⟨hc0, hc1⟩ (fun hS => ?_)
    refine takeD 0 5 (v := ?_) rfl rfl (by kernel_rfl) (by kernel_rfl) (by kernel_rfl) (fun _ _ _ h => h) (Or.inl ⟨by kernel_rfl, ?_⟩) hS ?_
    rotate_left 1
    · (intro w' hw'; (try dsimp only at hw'); go_simp; try with_reducible rfl)
    simp only [List.setIfInBounds_toArray, List.set_cons_zero, List.set_cons_succ]
    refine takeD 1 6 (v := ?_) rfl rfl (by kernel_rfl) (by kernel_rfl) (by kernel_rfl) (fun _ _ _ h => h) (Or.inl ⟨by kernel_rfl, ?_⟩) hS ?_
    rotate_left 1
    · (intro w' hw'; (try dsimp only at hw'); go_simp; try with_reducible rfl)
    simp only [List.setIfInBounds_toArray, List.set_cons_zero, List.set_cons_succ]
    refine takeD 2 7 (v := ?_) rfl rfl (by kernel_rfl) (by kernel_rfl) (by kernel_rfl) (fun _ _ _ h => h) (Or.inl ⟨by kernel_rfl, ?_⟩) hS ?_
    rotate_left 1
    · (intro w' hw'; (try dsimp only at hw'); go_simp; try with_reducible rfl)
    simp only [List.setIfInBounds_toArray, List.set_cons_zero, List.set_cons_succ]
    refine takeD 3 8 (v := ?_) rfl rfl (by kernel_rfl) (by kernel_rfl) (by kernel_rfl) (fun _ _ _ h => h) (Or.inl ⟨by kernel_rfl, ?_⟩) hS ?_
    rotate_left 1
    · (intro w' hw'; (try dsimp only at hw'); go_simp; try with_reducible rfl)
    simp only [List.setIfInBounds_toArray, List.set_cons_zero, List.set_cons_succ]
    refine takeD 4 9 (v := ?_) rfl rfl (by kernel_rfl) (by kernel_rfl) (by kernel_rfl) (fun _ _ _ h => h) (Or.inl ⟨by kernel_rfl, ?_⟩) hS ?_
    rotate_left 1
    · (intro w' hw'; (try dsimp only at hw'); go_simp; try with_reducible rfl)
    simp only [List.setIfInBounds_toArray, List.set_cons_zero, List.set_cons_succ]
    refine takeD 5 10 (v := ?_) rfl rfl (by kernel_rfl) (by kernel_rfl) (by kernel_rfl) (fun _ _ _ h => h) (Or.inl ⟨by kernel_rfl, ?_⟩) hS ?_
    rotate_left 1
    · (intro w' hw'; (try dsimp only at hw'); go_simp; try with_reducible rfl)
    simp only [List.setIfInBounds_toArray, List.set_cons_zero, List.set_cons_succ]
    refine takeD 6 11 (v := ?_) rfl rfl (by kernel_rfl) (by kernel_rfl) (by kernel_rfl) (fun _ _ _ h => h) (Or.inl ⟨by kernel_rfl, ?_⟩) hS ?_
    rotate_left 1
    · (intro w' hw'; (try dsimp only at hw'); go_simp; try with_reducible rfl)
    simp only [List.setIfInBounds_toArray, List.set_cons_zero, List.set_cons_succ]
    refine takeD 7 12 (v := ?_) rfl rfl (by kernel_rfl) (by kernel_rfl) (by kernel_rfl) (fun _ _ _ h => h) (Or.inl ⟨by kernel_rfl, ?_⟩) hS ?_
    rotate_left 1
    · (intro w' hw'; (try dsimp only at hw'); go_simp; try with_reducible rfl)
    simp only [List.setIfInBounds_toArray, List.set_cons_zero, List.set_cons_succ]
    refine takeD 8 13 (v := ?_) rfl rfl (by kernel_rfl) (by kernel_rfl) (by kernel_rfl) (fun _ _ _ h => h) (Or.inl ⟨by kernel_rfl, ?_⟩) hS ?_
    rotate_left 1
    · (intro w' hw'; (try dsimp only at hw'); go_simp; try with_reducible rfl)
    simp only [List.setIfInBounds_toArray, List.set_cons_zero, List.set_cons_succ]
    refine takeD 9 14 (v := ?_) rfl rfl (by kernel_rfl) (by kernel_rfl) (by kernel_rfl) (fun _ _ _ h => h) (Or.inl ⟨by kernel_rfl, ?_⟩) hS ?_
    rotate_left 1
    · (intro w' hw'; (try dsimp only at hw'); go_simp; try with_reducible rfl)
    simp only [List.setIfInBounds_toArray, List.set_cons_zero, List.set_cons_succ]
    refine takeD 10 15 (v := ?_) rfl rfl (by kernel_rfl) (by kernel_rfl) (by kernel_rfl) (fun _ _ _ h => h) (Or.inl ⟨by kernel_rfl, ?_⟩) hS ?_
    rotate_left 1
    · (intro w' hw'; (try dsimp only at hw'); go_simp; try with_reducible rfl)
    simp only [List.setIfInBounds_toArray, List.set_cons_zero, List.set_cons_succ]
    refine takeD 12 17 (v := ?_) rfl rfl (by kernel_rfl) (by kernel_rfl) (by kernel_rfl) (fun _ _ _ h => h) (Or.inl ⟨by kernel_rfl, ?_⟩) hS ?_
    rotate_left 1
    · (intro w' hw'; (try dsimp only at hw'); go_simp; try with_reducible rfl)
    simp only [List.setIfInBounds_toArray, List.set_cons_zero, List.set_cons_succ]
    refine takeD 13 18 (v := ?_) rfl rfl (by kernel_rfl) (by kernel_rfl) (by kernel_rfl) (fun _ _ _ h => h) (Or.inl ⟨by kernel_rfl, ?_⟩) hS ?_
    rotate_left 1
    · (intro w' hw'; (try dsimp only at hw'); go_simp; try with_reducible rfl)
    simp only [List.setIfInBounds_toArray, List.set_cons_zero, List.set_cons_succ]
    refine takeD 14 19 (v := ?_) rfl rfl (by kernel_rfl) (by kernel_rfl) (by kernel_rfl) (fun _ _ _ h => h) (Or.inl ⟨by kernel_rfl, ?_⟩) hS ?_
    rotate_left 1
    · (intro w' hw'; (try dsimp only at hw'); go_simp; try with_reducible rfl)
    simp only [List.setIfInBounds_toArray, List.set_cons_zero, List.set_cons_succ]
    refine takeD 15 20 (v := ?_) rfl rfl (by kernel_rfl) (by kernel_rfl) (by kernel_rfl) (fun _ _ _ h => h) (Or.inl ⟨by kernel_rfl, ?_⟩) hS ?_
    rotate_left 1
    · (intro w' hw'; (try dsimp only at hw'); go_simp; try with_reducible rfl)
    simp only [List.setIfInBounds_toArray, List.set_cons_zero, List.set_cons_succ]
    refine wpAnyH_ready (rs := [11, 16]) (by kernel_rfl) (by simp) ?_
    refine AllReadyH.cons rfl (fun K hK => ?_) (AllReadyH.cons rfl (fun K hK => ?_) AllReadyH.nil)
    · go_simp
      refine hK.out _ _ hS (fun hS1 => ?_)
      clear hK K
      (try simp only [Act.put, List.setIfInBounds_toArray, List.set_cons_zero, List.set_cons_succ])
      refine wpAnyH_ready (rs := [16]) (by kernel_rfl) (by simp) ?_
      refine AllReadyH.cons rfl (fun K hK => ?_) AllReadyH.nil
      go_simp
      refine (wordsIndexY_q _ (by omega) (by omega) _).mono ?_
      rintro e w' ⟨rfl, rfl⟩
      rw [HY1.out]
      refine hK.out _ _ ?_ (fun hS2 => ?_)
      · exact hS1
      clear hK K
      (try simp only [Act.put, List.setIfInBounds_toArray, List.set_cons_zero, List.set_cons_succ])
      refine takeD 17 22 (v := ?_) rfl rfl (by kernel_rfl) (by kernel_rfl) (by kernel_rfl) (fun _ _ _ h => h) (Or.inl ⟨by kernel_rfl, ?_⟩) hS2 ?_
      rotate_left 1
      · (intro w' hw'; (try dsimp only at hw'); go_simp; try with_reducible rfl)
      simp only [List.setIfInBounds_toArray, List.set_cons_zero, List.set_cons_succ]
      refine takeD 18 23 (v := ?_) rfl rfl (by kernel_rfl) (by kernel_rfl) (by kernel_rfl) (fun _ _ _ h => h) (Or.inl ⟨by kernel_rfl, ?_⟩) hS2 ?_
      rotate_left 1
      · (intro w' hw'; (try dsimp only at hw'); go_simp; try with_reducible rfl)
      simp only [List.setIfInBounds_toArray, List.set_cons_zero, List.set_cons_succ]
      refine takeD 19 24 (v := ?_) rfl rfl (by kernel_rfl) (by kernel_rfl) (by kernel_rfl) (fun _ _ _ h => h) (Or.inl ⟨by kernel_rfl, ?_⟩) hS2 ?_
      rotate_left 1
      · (intro w' hw'; (try dsimp only at hw'); go_simp; try with_reducible rfl)
      simp only [List.setIfInBounds_toArray, List.set_cons_zero, List.set_cons_succ]
      refine takeD 20 25 (v := ?_) rfl rfl (by kernel_rfl) (by kernel_rfl) (by kernel_rfl) (fun _ _ _ h => h) (Or.inl ⟨by kernel_rfl, ?_⟩) hS2 ?_
      rotate_left 1
      · (intro w' hw'; (try dsimp only at hw'); go_simp; try with_reducible rfl)
      simp only [List.setIfInBounds_toArray, List.set_cons_zero, List.set_cons_succ]
      refine wpAnyH_ready (rs := [21]) (by kernel_rfl) (by simp) ?_
      refine AllReadyH.cons rfl (fun K hK => ?_) AllReadyH.nil
      go_simp
      refine hK.out _ _ ?_ (fun hS3 => ?_)
      · exact ⟨(World.cell?_setCell_other _ _ _ _ (by simp [hne])).trans hS2.1, (World.cell?_setCell_other _ _ _ _ (by simp [hne])).trans hS2.2⟩
      clear hK K
      (try simp only [Act.put, List.setIfInBounds_toArray, List.set_cons_zero, List.set_cons_succ])
      refine wpAnyH_done (by kernel_rfl) ?_ _
      go_wp2_with fail
      go_end0
      rw [HO.out]
      refine ⟨rfl, ⟨hne, cap, _, ?_, hr3, hcl⟩, hk.drew⟩
      rw [List.length_set, HM.out]
      exact hh3
    · go_simp
      refine (wordsIndexY_q _ (by omega) (by omega) _).mono ?_
      rintro e w' ⟨rfl, rfl⟩
      rw [HY1.out]
      refine hK.out _ _ hS (fun hS1 => ?_)
      clear hK K
      (try simp only [Act.put, List.setIfInBounds_toArray, List.set_cons_zero, List.set_cons_succ])
      refine takeD 17 22 (v := ?_) rfl rfl (by kernel_rfl) (by kernel_rfl) (by kernel_rfl) (fun _ _ _ h => h) (Or.inl ⟨by kernel_rfl, ?_⟩) hS1 ?_
      rotate_left 1
      · (intro w' hw'; (try dsimp only at hw'); go_simp; try with_reducible rfl)
      simp only [List.setIfInBounds_toArray, List.set_cons_zero, List.set_cons_succ]
      refine takeD 18 23 (v := ?_) rfl rfl (by kernel_rfl) (by kernel_rfl) (by kernel_rfl) (fun _ _ _ h => h) (Or.inl ⟨by kernel_rfl, ?_⟩) hS1 ?_
      rotate_left 1
      · (intro w' hw'; (try dsimp only at hw'); go_simp; try with_reducible rfl)
      simp only [List.setIfInBounds_toArray, List.set_cons_zero, List.set_cons_succ]
      refine wpAnyH_ready (rs := [11]) (by kernel_rfl) (by simp) ?_
      refine AllReadyH.cons rfl (fun K hK => ?_) AllReadyH.nil
      go_simp
      refine hK.out _ _ ?_ (fun hS2 => ?_)
      · exact hS1
      clear hK K
      (try simp only [Act.put, List.setIfInBounds_toArray, List.set_cons_zero, List.set_cons_succ])
      refine takeD 19 24 (v := ?_) rfl rfl (by kernel_rfl) (by kernel_rfl) (by kernel_rfl) (fun _ _ _ h => h) (Or.inl ⟨by kernel_rfl, ?_⟩) hS2 ?_
      rotate_left 1
      · (intro w' hw'; (try dsimp only at hw'); go_simp; try with_reducible rfl)
      simp only [List.setIfInBounds_toArray, List.set_cons_zero, List.set_cons_succ]
      refine takeD 20 25 (v := ?_) rfl rfl (by kernel_rfl) (by kernel_rfl) (by kernel_rfl) (fun _ _ _ h => h) (Or.inl ⟨by kernel_rfl, ?_⟩) hS2 ?_
      rotate_left 1
      · (intro w' hw'; (try dsimp only at hw'); go_simp; try with_reducible rfl)
      simp only [List.setIfInBounds_toArray, List.set_cons_zero, List.set_cons_succ]
      refine wpAnyH_ready (rs := [21]) (by kernel_rfl) (by simp) ?_
      refine AllReadyH.cons rfl (fun K hK => ?_) AllReadyH.nil
      go_simp
      refine hK.out _ _ ?_ (fun hS3 => ?_)
      · exact ⟨(World.cell?_setCell_other _ _ _ _ (by simp [hne])).trans hS2.1, (World.cell?_setCell_other _ _ _ _ (by simp [hne])).trans hS2.2⟩
      clear hK K
      (try simp only [Act.put, List.setIfInBounds_toArray, List.set_cons_zero, List.set_cons_succ])
      refine wpAnyH_done (by kernel_rfl) ?_ _
      go_wp2_with fail
      go_end0
      rw [HO.out]
      refine ⟨rfl, ⟨hne, cap, _, ?_, hr3, hcl⟩, hk.drew⟩
      rw [List.length_set, HM.out]
      exact hh3

set_option maxHeartbeats 1000000 in
theorem setAll_c (b g n : Nat) (f : Nat → Bool) (w : World) (h : BSet w b g n f) (hn : n ≤ 20000) :
    Calls Try.prog 56 #[.pointer (some ⟨b, 0, none⟩)] w fun e w' => e = .returned (.pointer (some ⟨b, 0, none⟩)) ∧ BSet w' b g n (fun _ => true) ∧ Kept [b, g] w w' := by
  obtain ⟨hne, cap, ws, hh, hr, hw⟩ := h
  have hm := hw.length
  obtain ⟨m, hmm⟩ : ∃ m, ws.length = m := ⟨_, rfl⟩
  have hfin : Loose (part (fun q => decide (q < m)) (fun _ => 18446744073709551615) ws) n (fun _ => true) :=
    part_loose _ _ _ _ hm hw.lt (fun _ _ _ => by decide) (fun q t hq ht _ => by rw [if_pos (by rw [hmm] at hq; simpa using hq)]; exact (testBit_ones t).trans (decide_eq_true ht))
  rw [hmm] at hh hm
  have hc1 := hh.c1
  have hle := hr.le
  have hnil := fun (wx : World) (a : Addr) (n c : Nat) => Go.run_neq_slice_nil_any (P := Try.prog) wx 69 72 (some a) n c 0 0 Try.underlying69
  simp only [Option.isNone] at hnil
  have hst : Kept [b, g] w w ∧ Hdr w b n g m cap ∧ URow w g (part (fun q => decide (q < 0)) (fun _ => 18446744073709551615) ws) cap := ⟨Kept.refl _ _, hh, by rw [part_none _ _ _ (fun q _ => by simp)]; exact hr⟩
  have HM := Lib.hid hm; clear hm
  have HMM := Lib.hid hmm
  rw [hmm] at hle
  clear hmm
  have hm313 : m ≤ 313 := by have := HM.out; omega
  go_enter Try.func56, Try.ntmps56
  go_wp2
  go_loopw [18] (fun v wr => ∃ k : Nat, k ≤ m ∧ v = .int .i64 k ∧ Kept [b, g] w wr ∧ Hdr wr b n g m cap ∧ URow wr g (part (fun q => decide (q < k)) (fun _ => 18446744073709551615) ws) cap) (fun v _ => m - (intOf v).toNat)
  case atStart => exact ⟨0, Nat.zero_le _, rfl, hst⟩
  case round =>
    obtain ⟨k, hk, rfl, k1, hh1, hr1⟩ := hrel
    by_cases hkm : k < m
    · have c1 := hh1.c1
      have hf := hr1.free k
      have hx := hr1.cell k (by rw [part_length, HMM.out]; omega)
      have R := hr1.set k 18446744073709551615
      rw [part_set (p' := fun q => decide (q < k + 1)) (g' := fun _ => 18446744073709551615) (hx := fun _ => ⟨by simp, rfl⟩) (hp := fun q _ hq => ⟨by simp; omega, fun _ => rfl⟩)] at R
      have k2 := k1.setCell (p := ⟨g, k, none⟩) (by left; simp) (.int .u64 ((18446744073709551615 : Nat) : Int))
      have hh2 := hh1.other (o := k) hne (.int .u64 ((18446744073709551615 : Nat) : Int))
      clear hr1 hh1
      go_wp2
      go_roundw
      case rel => exact ⟨k + 1, by omega, by go_num, k2, hh2, R⟩
      case measure => simp [intOf]; omega
    · have hkn : k = m := by omega
      subst hkn
      have c1 := hh1.c1
      go_wp2_with fail
      refine (cleanLastWord_c b g n cap (fun _ => true) _ _ hne (by rw [part_length, HMM.out]; exact hh1) hr1 hfin hn).mono ?_
      rintro e w9 ⟨rfl, h9, k9⟩
      go_wp2_with fail
      go_ret
      exact ⟨rfl, h9, k1.trans k9 (fun x hx => by simp at hx; left; simp [hx])⟩
set_option maxHeartbeats 1000000 in
theorem complement_c (b g n : Nat) (f : Nat → Bool) (w : World) (h : BSet w b g n f) (hn : n ≤ 20000) :
    Calls Try.prog 44 #[.pointer (some ⟨b, 0, none⟩)] w fun e w' => ∃ b' g', e = .returned (.pointer (some ⟨b', 0, none⟩)) ∧ BSet w' b' g' n (fun j => !f j) ∧ w.heap.size ≤ b' ∧ w.heap.size ≤ g' ∧ Kept [] w w' := by
  obtain ⟨hne, cap, ws, hh, hr, hw⟩ := h
  have hc0 := hh.c0
  have hglt := hr.lt
  have hblt := hh.lt
  go_enter Try.func44, Try.ntmps44
  go_wp2_with (go_at_call 64; refine (panicIfNull_c _ _).mono ?_; rintro e w' ⟨rfl, rfl⟩)
  refine (new_c n _ hn).mono ?_
  rintro e w1 ⟨b3, g3, rfl, ⟨hne3, cap3, zs, hh3, hr3, hw3⟩, n1, n2, k1⟩
  have hh1 := hh.kept k1 (by simp)
  have hr1 := hr.kept k1 (by simp)
  have hlx := hw.length
  have hlz := hw3.length
  obtain ⟨m, hm⟩ : ∃ m, (n + 63) / 64 = m := ⟨_, rfl⟩
  have hfin : Loose (part (fun q => decide (q < m)) (fun q => flipW (ws.getD q 0)) zs) n (fun j => !f j) :=
    part_loose _ _ _ _ hlz hw3.lt (fun q _ _ => flipW_lt _ (hw.word q)) (fun q t hq ht hj => by
      rw [if_pos (by rw [hlz, hm] at hq; simpa using hq), testBit_flipW _ _ ht, hw.testAt q t ht, decide_eq_true hj, Bool.true_and])
  have hwl := hw.word
  rw [hm] at hlx hlz
  have hle3 := hr3.le
  rw [hlx] at hh1
  rw [hlz] at hh3 hle3
  have HX := Lib.hid hlx; have HZ := Lib.hid hlz
  clear hlx hlz
  have hm313 : m ≤ 313 := by omega
  clear hm
  have c1 := hh1.c1
  have c3 := hh3.c1
  clear hc0
  have hst : Kept [b3, g3] w1 w1 ∧ Hdr w1 b3 n g3 m cap3 ∧ URow w1 g3 (part (fun q => decide (q < 0)) (fun q => flipW (ws.getD q 0)) zs) cap3 := ⟨Kept.refl _ _, hh3, by rw [part_none _ _ _ (fun q _ => by simp)]; exact hr3⟩
  go_wp2_with fail
  go_loopw [17] (fun v wr => ∃ k : Nat, k ≤ m ∧ v = .int .i64 k ∧ Kept [b3, g3] w1 wr ∧ Hdr wr b3 n g3 m cap3 ∧ URow wr g3 (part (fun q => decide (q < k)) (fun q => flipW (ws.getD q 0)) zs) cap3) (fun v _ => m - (intOf v).toNat)
  case atStart => exact ⟨0, Nat.zero_le _, rfl, hst⟩
  case round =>
    obtain ⟨k, hk, rfl, q1, q2, q3⟩ := hrel
    by_cases hkm : k < m
    · have cx := (hr1.kept q1 (by simp; omega)).cell k (by rw [HX.out]; omega)
      have d3 := q2.c1
      have hf := q3.free k
      obtain ⟨u, hu⟩ := q3.any k (by omega)
      have hop : bits .xor .u64 (if IntKind.u64.signed = true then -1 else IntKind.u64.max) ((ws.getD k 0 : Nat) : Int) = ((flipW (ws.getD k 0) : Nat) : Int) := bits_flip _ (hwl k)
      have R := q3.set k (flipW (ws.getD k 0))
      rw [part_set (p' := fun q => decide (q < k + 1)) (g' := fun q => flipW (ws.getD q 0)) (hx := fun _ => ⟨by simp, rfl⟩) (hp := fun q _ hq => ⟨by simp; omega, fun _ => rfl⟩)] at R
      have q2' := q2.other (o := k) hne3 (.int .u64 ((flipW (ws.getD k 0) : Nat) : Int))
      have q1' := q1.setCell (p := ⟨g3, k, none⟩) (by left; simp) (.int .u64 ((flipW (ws.getD k 0) : Nat) : Int))
      have i0 : (0 : Int) ≤ (k : Int) := by omega
      have i1 : (k : Int) < (m : Int) := by omega
      generalize ws.getD k 0 = X at *
      have HO := Lib.hid hop; clear hop
      go_wp2_with fail
      rw [HO.out]
      go_roundw
      case rel => exact ⟨k + 1, by omega, by go_num, q1', q2', R⟩
      case measure => simp [intOf]; omega
    · have hkn : k = m := by omega
      subst hkn
      go_wp2_with fail
      refine (cleanLastWord_c b3 g3 n cap3 (fun j => !f j) _ _ hne3 (by rw [part_length, HZ.out]; exact q2) q3 hfin hn).mono ?_
      rintro e w9 ⟨rfl, h9, k9⟩
      go_wp2_with fail
      go_ret
      exact ⟨b3, g3, rfl, h9, n1, n2, (k1.trans q1 (fun i hi => by simp at hi; right; omega)).trans k9 (fun x hx => by simp at hx; right; omega)⟩
end Go.Proofs.Ytiaghdnhapiioaa

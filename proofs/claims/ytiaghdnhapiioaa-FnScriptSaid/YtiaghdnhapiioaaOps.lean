/-
  The contracts of Clear, Flip and ClearAll, for sets of at most 20000 bits.
-/
import Derived.Test.YtiaghdnhapiioaaBuild
import Derived.Deep.RegionWith
namespace Go.Proofs.Ytiaghdnhapiioaa
set_option linter.unusedSimpArgs false
set_option linter.unusedVariables false
open Go.RowKit

theorem clear_bits {n i : Nat} {f : Nat → Bool} {ws : List Nat} (hw : WordsOk ws n f) (_hi : i < n) : ∀ t, t < 64 → (andNot (ws.getD (i / 64) 0) (2 ^ (i % 64))).testBit t = (decide (64 * (i / 64) + t < n) && (fun j => !(j == i) && f j) (64 * (i / 64) + t)) := by
  intro t ht
  rw [testBit_andNot, hw.testAt _ t ht, Nat.testBit_two_pow]
  by_cases h : i % 64 = t
  · have e : (64 * (i / 64) + t == i) = true := by simp; omega
    simp [h, e]
  · have e : (64 * (i / 64) + t == i) = false := by simp; omega
    simp [h, e]

set_option maxHeartbeats 1000000 in
theorem clearIn_c (b g n i : Nat) (f : Nat → Bool) (w : World) (h : BSet w b g n f) (hi : i < n) (hn : n ≤ 20001) :
    Calls Try.prog 50 #[.pointer (some ⟨b, 0, none⟩), .int .u64 i] w fun e w' => e = .returned (.pointer (some ⟨b, 0, none⟩)) ∧ BSet w' b g n (fun j => !(j == i) && f j) ∧ Kept [b, g] w w' := by
  obtain ⟨hne, cap, ws, hh, hr, hw⟩ := h
  have hm := hw.length
  have hlt : i / 64 < ws.length := by omega
  have hc0 := hh.c0
  have hc1 := hh.c1
  have hX := hr.cell (i / 64) hlt
  have hF := hr.free (i / 64)
  have hle := hr.le
  have hw64 := hw.word (i / 64)
  have hst := BSet.store (f' := fun j => !(j == i) && f j) hne hh hr hw (i / 64) (andNot (ws.getD (i / 64) 0) (2 ^ (i % 64))) hlt (andNot_lt _ _ hw64) (clear_bits hw hi) (fun j _ hj => by have e : (j == i) = false := beq_eq_false_iff_ne.2 (fun e => hj (by rw [e])); simp [e])
  have hor := andNot_word (ws.getD (i / 64) 0) (i % 64) hw64 (by omega)
  generalize ws.getD (i / 64) 0 = X at *
  have HO := Lib.hid hor; clear hor
  have HW := Lib.hid hw64; clear hw64
  have HM := Lib.hid hm; clear hm
  have i1 : (0 : Int) ≤ (i : Int) / 64 := by omega
  have i2 : (i : Int) / 64 < (ws.length : Int) := by omega
  have i3 : ((i : Int) / 64).toNat = i / 64 := by omega
  have i4 : ((i : Int) % 64).toNat = i % 64 := by omega
  go_enter Try.func50, Try.ntmps50
  go_wp2
  go_region_with (go_at_call 63; refine (wordsIndex_c i (by omega) _).mono ?_; rintro e w' ⟨rfl, rfl⟩)
  all_goals
    go_wp2
    go_ret
    refine ⟨rfl, ?_, (((Kept.refl _ _).drewN 1).setCell (by left; simp) _)⟩
    rw [HO.out]
    exact hst

theorem clear_c (b g n i : Nat) (f : Nat → Bool) (w : World) (h : BSet w b g n f) (hn : n ≤ 20001) (_hi : i ≤ 20000) :
    Calls Try.prog 50 #[.pointer (some ⟨b, 0, none⟩), .int .u64 i] w fun e w' => e = .returned (.pointer (some ⟨b, 0, none⟩)) ∧ BSet w' b g n (fun j => !(j == i) && f j) ∧ Kept [b, g] w w' := by
  by_cases hin : i < n
  · exact clearIn_c b g n i f w h hin hn
  · have hc0 : w.cell? ⟨b, 0, none⟩ = some (.int .u64 n) := by obtain ⟨_, cap, ws, hh, _, _⟩ := h; exact hh.c0
    have hni : n ≤ i := by omega
    have h' := h.congr (f' := fun j => !(j == i) && f j) (fun j hj => by rw [show (j == i) = false from by simp; omega]; rfl)
    clear h hin
    go_enter Try.func50, Try.ntmps50
    go_wp2
    go_ret
    exact ⟨rfl, h', Kept.refl _ _⟩

theorem flip_bits {n i : Nat} {f : Nat → Bool} {ws : List Nat} (hw : WordsOk ws n f) (_hi : i < n) : ∀ t, t < 64 → (ws.getD (i / 64) 0 ^^^ 2 ^ (i % 64)).testBit t = (decide (64 * (i / 64) + t < n) && (fun j => (j == i) ^^ f j) (64 * (i / 64) + t)) := by
  intro t ht
  rw [Nat.testBit_xor, hw.testAt _ t ht, Nat.testBit_two_pow]
  by_cases h : i % 64 = t
  · have e : (64 * (i / 64) + t == i) = true := by simp; omega
    have e2 : 64 * (i / 64) + t < n := by omega
    simp [h, e, e2]
  · have e : (64 * (i / 64) + t == i) = false := by simp; omega
    simp [h, e]

set_option maxHeartbeats 1000000 in
theorem flipIn_c (b g n i : Nat) (f : Nat → Bool) (w : World) (h : BSet w b g n f) (hi : i < n) (hn : n ≤ 20001) :
    Calls Try.prog 51 #[.pointer (some ⟨b, 0, none⟩), .int .u64 i] w fun e w' => e = .returned (.pointer (some ⟨b, 0, none⟩)) ∧ BSet w' b g n (fun j => (j == i) ^^ f j) ∧ Kept [b, g] w w' := by
  obtain ⟨hne, cap, ws, hh, hr, hw⟩ := h
  have hm := hw.length
  have hlt : i / 64 < ws.length := by omega
  have hc0 := hh.c0
  have hc1 := hh.c1
  have hX := hr.cell (i / 64) hlt
  have hF := hr.free (i / 64)
  have hle := hr.le
  have hw64 := hw.word (i / 64)
  have hst := BSet.store (f' := fun j => (j == i) ^^ f j) hne hh hr hw (i / 64) (ws.getD (i / 64) 0 ^^^ 2 ^ (i % 64)) hlt (Nat.xor_lt_two_pow hw64 (pow_lt _ (by omega))) (flip_bits hw hi) (fun j _ hj => by have e : (j == i) = false := beq_eq_false_iff_ne.2 (fun e => hj (by rw [e])); simp [e])
  have hor := xor_word (ws.getD (i / 64) 0) (i % 64) hw64 (by omega)
  generalize ws.getD (i / 64) 0 = X at *
  have HO := Lib.hid hor; clear hor
  have HW := Lib.hid hw64; clear hw64
  have HM := Lib.hid hm; clear hm
  have i1 : (0 : Int) ≤ (i : Int) / 64 := by omega
  have i2 : (i : Int) / 64 < (ws.length : Int) := by omega
  have i3 : ((i : Int) / 64).toNat = i / 64 := by omega
  have i4 : ((i : Int) % 64).toNat = i % 64 := by omega
  go_enter Try.func51, Try.ntmps51
  go_wp2
  go_region_with (go_at_call 63; refine (wordsIndex_c i (by omega) _).mono ?_; rintro e w' ⟨rfl, rfl⟩)
  all_goals
    go_wp2
    go_ret
    refine ⟨rfl, ?_, (((Kept.refl _ _).drewN 1).setCell (by left; simp) _)⟩
    rw [HO.out]
    exact hst

set_option maxHeartbeats 400000 in
theorem flip_c (b g n i : Nat) (f : Nat → Bool) (w : World) (h : BSet w b g n f) (hn : n ≤ 20001) (hi : i ≤ 20000) :
    Calls Try.prog 51 #[.pointer (some ⟨b, 0, none⟩), .int .u64 i] w fun e w' => e = .returned (.pointer (some ⟨b, 0, none⟩)) ∧ ∃ g', BSet w' b g' (max n (i + 1)) (fun j => (j == i) ^^ (decide (j < n) && f j)) ∧ (g' = g ∨ w.heap.size ≤ g') ∧ Kept [b, g] w w' := by
  by_cases hin : i < n
  · refine (flipIn_c b g n i f w h hin hn).mono fun e w' ⟨h1, h2, h3⟩ => ⟨h1, g, ?_, .inl rfl, h3⟩
    rw [show max n (i + 1) = n by omega]
    exact h2.congr fun j hj => by simp [hj]
  · have hc0 : w.cell? ⟨b, 0, none⟩ = some (.int .u64 n) := by obtain ⟨_, cap, ws, hh, _, _⟩ := h; exact hh.c0
    have hni : n ≤ i := by omega
    clear hin
    go_enter Try.func51, Try.ntmps51
    go_wp2_with fail
    refine (setOut_c b g n i f w h hni hi).mono ?_
    rintro e w1 ⟨rfl, g', h1, h2, h3⟩
    go_wp2_with fail
    go_ret
    refine ⟨rfl, g', ?_, h2, h3⟩
    rw [show max n (i + 1) = i + 1 by omega]
    refine h1.congr fun j _ => ?_
    show (j == i || (decide (j < n) && f j)) = ((j == i) ^^ (decide (j < n) && f j))
    by_cases e : j = i
    · have e2 : decide (j < n) = false := by simp; omega
      rw [e2]; simp
    · rw [beq_eq_false_iff_ne.2 e]; simp

theorem WordsOk.allZero {n : Nat} (m : Nat) (hm : m = (n + 63) / 64) : WordsOk (List.replicate m 0) n (fun _ => false) := by
  have := WordsOk.zeros n
  rw [hm]
  exact this.congr fun j _ => by simp [memOf]

set_option maxHeartbeats 1000000 in
theorem clearAll_c (b g n : Nat) (f : Nat → Bool) (w : World) (h : BSet w b g n f) (hn : n ≤ 20000) :
    Calls Try.prog 55 #[.pointer (some ⟨b, 0, none⟩)] w fun e w' => e = .returned (.pointer (some ⟨b, 0, none⟩)) ∧ BSet w' b g n (fun _ => false) ∧ Kept [b, g] w w' := by
  obtain ⟨hne, cap, ws, hh, hr, hw⟩ := h
  have hm := hw.length
  obtain ⟨m, hmm⟩ : ∃ m, ws.length = m := ⟨_, rfl⟩
  rw [hmm] at hh hm
  have hc1 := hh.c1
  have hle := hr.le
  have hnil := fun (wx : World) (a : Addr) (n c : Nat) => Go.run_neq_slice_nil_any (P := Try.prog) wx 69 72 (some a) n c 0 0 Try.underlying69
  simp only [Option.isNone] at hnil
  have hst : Kept [b, g] w w ∧ Hdr w b n g m cap ∧ URow w g (List.replicate 0 0 ++ ws.drop 0) cap := ⟨Kept.refl _ _, hh, by simpa using hr⟩
  have HM := Lib.hid hm; clear hm
  have HMM := Lib.hid hmm
  rw [hmm] at hle
  clear hmm
  have hm313 : m ≤ 313 := by have := HM.out; omega
  go_enter Try.func55, Try.ntmps55
  go_wp2
  go_loopw [18] (fun v wr => ∃ k : Nat, k ≤ m ∧ v = .int .i64 k ∧ Kept [b, g] w wr ∧ Hdr wr b n g m cap ∧ URow wr g (List.replicate k 0 ++ ws.drop k) cap) (fun v _ => m - (intOf v).toNat)
  case atStart => exact ⟨0, Nat.zero_le _, rfl, hst⟩
  case round =>
    obtain ⟨k, hk, rfl, k1, hh1, hr1⟩ := hrel
    by_cases hkm : k < m
    · have hl : k < ws.length := by have := HMM.out; omega
      have c1 := hh1.c1
      have hf := hr1.free k
      have hx := hr1.cell k (by simp; omega)
      have R := hr1.set k 0
      have e : (List.replicate k 0 ++ ws.drop k).set k 0 = List.replicate (k + 1) 0 ++ ws.drop (k + 1) := by
        rw [List.set_append_right _ _ (by simp), List.length_replicate, Nat.sub_self, List.drop_eq_getElem_cons hl, List.set_cons_zero, List.replicate_succ']
        simp
      rw [e] at R
      have k2 := k1.setCell (p := ⟨g, k, none⟩) (by left; simp) (.int .u64 ((0 : Nat) : Int))
      have hh2 := hh1.other (o := k) hne (.int .u64 ((0 : Nat) : Int))
      have HX := Lib.hid e; clear e hr1 hh1
      go_wp2
      go_roundw
      case rel => exact ⟨k + 1, by omega, by go_num, k2, hh2, R⟩
      case measure => simp [intOf]; omega
    · have hkn : k = m := by omega
      subst hkn
      go_wp2
      go_ret
      refine ⟨rfl, ⟨hne, cap, _, ?_, hr1, ?_⟩, k1⟩
      · rw [List.length_append, List.length_replicate, List.length_drop, HMM.out]; simpa using hh1
      · rw [List.drop_of_length_le (by rw [HMM.out]; exact Nat.le_refl _), List.append_nil]
        exact WordsOk.allZero _ HM.out

end Go.Proofs.Ytiaghdnhapiioaa

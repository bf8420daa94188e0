/-
  The contracts of Clear, Flip and ClearAll, for sets of at most 20000 bits.
-/
import Derived.Test.YtfdddnpmgaoddaaBuild
import Derived.Deep.RegionWith
namespace Go.Proofs.Ytfdddnpmgaoddaa
set_option linter.unusedSimpArgs false
set_option linter.unusedVariables false
open Go.RowKit

theorem clear_bits {n i : Nat} {f : Nat → Bool} {ws : List Nat} (hw : WordsOk ws n f) (_hi : i < n) : ∀ t, t < 64 → (andNot (ws.getD (i / 64) 0) (2 ^ (i % 64))).testBit t = (decide (64 * (i / 64) + t < n) && (fun j => !(j == i) && f j) (64 * (i / 64) + t)) := by
  intro t ht
  rw [testBit_andNot, hw.testAt _ t ht, Nat.testBit_two_pow]
  by_cases h : i % 64 = t
  · have e : (64 * (i / 64) + t == i) = true := by simp; omega
    simp [h, e]
  · have e : (64 * (i / 64) + t == i) = false := by simp; omega
    simp [h, e]

set_option maxHeartbeats 1000000 in
theorem clearIn_c (b g n i : Nat) (f : Nat → Bool) (w : World) (h : BSet w b g n f) (hi : i < n) (hn : n ≤ 20001) :
    Calls Try.prog 68 #[.pointer (some ⟨b, 0, none⟩), .int .u64 i] w fun e w' => e = .returned (.pointer (some ⟨b, 0, none⟩)) ∧ BSet w' b g n (fun j => !(j == i) && f j) ∧ Kept [b, g] w w' := by
  obtain ⟨hne, cap, ws, hh, hr, hw⟩ := h
  have hm := hw.length
  have hlt : i / 64 < ws.length := by omega
  have hc0 := hh.c0
  have hc1 := hh.c1
  have hX := hr.cell (i / 64) hlt
  have hF := hr.free (i / 64)
  have hle := hr.le
  have hw64 := hw.word (i / 64)
  have hst := BSet.store (f' := fun j => !(j == i) && f j) hne hh hr hw (i / 64) (andNot (ws.getD (i / 64) 0) (2 ^ (i % 64))) hlt (andNot_lt _ _ hw64) (clear_bits hw hi) (fun j _ hj => by have e : (j == i) = false := beq_eq_false_iff_ne.2 (fun e => hj (by rw [e])); simp [e])
  have hor := andNot_word (ws.getD (i / 64) 0) (i % 64) hw64 (by omega)
  generalize ws.getD (i / 64) 0 = X at *
  have HO := Lib.hid hor; clear hor
  have HW := Lib.hid hw64; clear hw64
  have HM := Lib.hid hm; clear hm
  have i1 : (0 : Int) ≤ (i : Int) / 64 := by omega
  have i2 : (i : Int) / 64 < (ws.length : Int) := by omega
  have i3 : ((i : Int) / 64).toNat = i / 64 := by omega
  have i4 : ((i : Int) % 64).toNat = i % 64 := by omega
  go_enter Try.func68, Try.ntmps68
  go_wp2
  go_region_with (go_at_call 71; refine (wordsIndex_c i (by omega) _).mono ?_; rintro e w' ⟨rfl, rfl⟩)
  all_goals
    go_wp2
    go_ret
    refine ⟨rfl, ?_, (((Kept.refl _ _).drewN 1).setCell (by left; simp) _)⟩
    rw [HO.out]
    exact hst

theorem clear_c (b g n i : Nat) (f : Nat → Bool) (w : World) (h : BSet w b g n f) (hn : n ≤ 20001) (_hi : i ≤ 20000) :
    Calls Try.prog 68 #[.pointer (some ⟨b, 0, none⟩), .int .u64 i] w fun e w' => e = .returned (.pointer (some ⟨b, 0, none⟩)) ∧ BSet w' b g n (fun j => !(j == i) && f j) ∧ Kept [b, g] w w' := by
  by_cases hin : i < n
  · exact clearIn_c b g n i f w h hin hn
  · have hc0 : w.cell? ⟨b, 0, none⟩ = some (.int .u64 n) := by obtain ⟨_, cap, ws, hh, _, _⟩ := h; exact hh.c0
    have hni : n ≤ i := by omega
    have h' := h.congr (f' := fun j => !(j == i) && f j) (fun j hj => by rw [show (j == i) = false from by simp; omega]; rfl)
    clear h hin
    go_enter Try.func68, Try.ntmps68
    go_wp2
    go_ret
    exact ⟨rfl, h', Kept.refl _ _⟩

theorem flip_bits {n i : Nat} {f : Nat → Bool} {ws : List Nat} (hw : WordsOk ws n f) (_hi : i < n) : ∀ t, t < 64 → (ws.getD (i / 64) 0 ^^^ 2 ^ (i % 64)).testBit t = (decide (64 * (i / 64) + t < n) && (fun j => (j == i) ^^ f j) (64 * (i / 64) + t)) := by
  intro t ht
  rw [Nat.testBit_xor, hw.testAt _ t ht, Nat.testBit_two_pow]
  by_cases h : i % 64 = t
  · have e : (64 * (i / 64) + t == i) = true := by simp; omega
    have e2 : 64 * (i / 64) + t < n := by omega
    simp [h, e, e2]
  · have e : (64 * (i / 64) + t == i) = false := by simp; omega
    simp [h, e]

set_option maxHeartbeats 1000000 in
theorem flipIn_c (b g n i : Nat) (f : Nat → Bool) (w : World) (h : BSet w b g n f) (hi : i < n) (hn : n ≤ 20001) :
    Calls Try.prog 58 #[.pointer (some ⟨b, 0, none⟩), .int .u64 i] w fun e w' => e = .returned (.pointer (some ⟨b, 0, none⟩)) ∧ BSet w' b g n (fun j => (j == i) ^^ f j) ∧ Kept [b, g] w w' := by
  obtain ⟨hne, cap, ws, hh, hr, hw⟩ := h
  have hm := hw.length
  have hlt : i / 64 < ws.length := by omega
  have hc0 := hh.c0
  have hc1 := hh.c1
  have hX := hr.cell (i / 64) hlt
  have hF := hr.free (i / 64)
  have hle := hr.le
  have hw64 := hw.word (i / 64)
  have hst := BSet.store (f' := fun j => (j == i) ^^ f j) hne hh hr hw (i / 64) (ws.getD (i / 64) 0 ^^^ 2 ^ (i % 64)) hlt (Nat.xor_lt_two_pow hw64 (pow_lt _ (by omega))) (flip_bits hw hi) (fun j _ hj => by have e : (j == i) = false := beq_eq_false_iff_ne.2 (fun e => hj (by rw [e])); simp [e])
  have hor := xor_word (ws.getD (i / 64) 0) (i % 64) hw64 (by omega)
  generalize ws.getD (i / 64) 0 = X at *
  have HO := Lib.hid hor; clear hor
  have HW := Lib.hid hw64; clear hw64
  have HM := Lib.hid hm; clear hm
  have i1 : (0 : Int) ≤ (i : Int) / 64 := by omega
  have i2 : (i : Int) / 64 < (ws.length : Int) := by omega
  have i3 : ((i : Int) / 64).toNat = i / 64 := by omega
  have i4 : ((i : Int) % 64).toNat = i % 64 := by omega
  go_enter Try.func58, Try.ntmps58
  go_wp2
  go_region_with (go_at_call 71; refine (wordsIndex_c i (by omega) _).mono ?_; rintro e w' ⟨rfl, rfl⟩)
  all_goals
    go_wp2
    go_ret
    refine ⟨rfl, ?_, (((Kept.refl _ _).drewN 1).setCell (by left; simp) _)⟩
    rw [HO.out]
    exact hst

set_option maxHeartbeats 400000 in
theorem flip_c (b g n i : Nat) (f : Nat → Bool) (w : World) (h : BSet w b g n f) (hn : n ≤ 20001) (hi : i ≤ 20000) :
    Calls Try.prog 58 #[.pointer (some ⟨b, 0, none⟩), .int .u64 i] w fun e w' => e = .returned (.pointer (some ⟨b, 0, none⟩)) ∧ ∃ g', BSet w' b g' (max n (i + 1)) (fun j => (j == i) ^^ (decide (j < n) && f j)) ∧ (g' = g ∨ w.heap.size ≤ g') ∧ Kept [b, g] w w' := by
  by_cases hin : i < n
  · refine (flipIn_c b g n i f w h hin hn).mono fun e w' ⟨h1, h2, h3⟩ => ⟨h1, g, ?_, .inl rfl, h3⟩
    rw [show max n (i + 1) = n by omega]
    exact h2.congr fun j hj => by simp [hj]
  · have hc0 : w.cell? ⟨b, 0, none⟩ = some (.int .u64 n) := by obtain ⟨_, cap, ws, hh, _, _⟩ := h; exact hh.c0
    have hni : n ≤ i := by omega
    clear hin
    go_enter Try.func58, Try.ntmps58
    go_wp2_with fail
    refine (setOut_c b g n i f w h hni hi).mono ?_
    rintro e w1 ⟨rfl, g', h1, h2, h3⟩
    go_wp2_with fail
    go_ret
    refine ⟨rfl, g', ?_, h2, h3⟩
    rw [show max n (i + 1) = i + 1 by omega]
    refine h1.congr fun j _ => ?_
    show (j == i || (decide (j < n) && f j)) = ((j == i) ^^ (decide (j < n) && f j))
    by_cases e : j = i
    · have e2 : decide (j < n) = false := by simp; omega
      rw [e2]; simp
    · rw [beq_eq_false_iff_ne.2 e]; simp


end Go.Proofs.Ytfdddnpmgaoddaa

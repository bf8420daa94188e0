/-
  The contracts of Set, and of building a set, for sets of at most 20000 bits.
-/
import Derived.Test.YthogmlblppcjoaaFmtSet
import Derived.Deep.RegionWith
namespace Go.Proofs.YthogmlblppcjoaaFmt
set_option linter.unusedSimpArgs false
set_option linter.unusedVariables false
open Go.RowKit

/-- One word of a set is written. -/
theorem BSet.store {w : World} {b g n cap : Nat} {ws : List Nat} {f f' : Nat → Bool} (hne : b ≠ g) (hh : Hdr w b n g ws.length cap) (hr : URow w g ws cap) (hw : WordsOk ws n f) (k x : Nat) (hk : k < ws.length) (hx : x < 2^64)
    (hb : ∀ t, t < 64 → x.testBit t = (decide (64 * k + t < n) && f' (64 * k + t))) (ho : ∀ j, j < n → j / 64 ≠ k → f' j = f j) : BSet (w.setCell ⟨g, k, none⟩ (.int .u64 (x : Int))) b g n f' :=
  ⟨hne, cap, ws.set k x, by rw [List.length_set]; exact hh.other hne _, hr.set k x, hw.set k x hk hx hb ho⟩

theorem or_bits {n i : Nat} {f : Nat → Bool} {ws : List Nat} (hw : WordsOk ws n f) (hi : i < n) : ∀ t, t < 64 → (ws.getD (i / 64) 0 ||| 2 ^ (i % 64)).testBit t = (decide (64 * (i / 64) + t < n) && ((64 * (i / 64) + t == i) || f (64 * (i / 64) + t))) := by
  intro t ht
  rw [Nat.testBit_or, hw.testAt _ t ht, Nat.testBit_two_pow]
  by_cases h : i % 64 = t
  · have e : 64 * (i / 64) + t = i := by omega
    simp [h, e, hi]
  · have e : (64 * (i / 64) + t == i) = false := by simp; omega
    simp [h, e]

set_option maxHeartbeats 1000000 in
theorem setIn_c (b g n i : Nat) (f : Nat → Bool) (w : World) (h : BSet w b g n f) (hi : i < n) (hn : n ≤ 20001) :
    Calls Tryf.prog 13 #[.pointer (some ⟨b, 0, none⟩), .int .u64 i] w fun e w' => e = .returned (.pointer (some ⟨b, 0, none⟩)) ∧ BSet w' b g n (fun j => (j == i) || f j) ∧ Kept [b, g] w w' := by
  obtain ⟨hne, cap, ws, hh, hr, hw⟩ := h
  have hm := hw.length
  have hlt : i / 64 < ws.length := by omega
  have hc0 := hh.c0
  have hc1 := hh.c1
  have hX := hr.cell (i / 64) hlt
  have hF := hr.free (i / 64)
  have hle := hr.le
  have hw64 := hw.word (i / 64)
  have hst := BSet.store (f' := fun j => (j == i) || f j) hne hh hr hw (i / 64) (ws.getD (i / 64) 0 ||| 2 ^ (i % 64)) hlt (Nat.or_lt_two_pow hw64 (pow_lt _ (by omega))) (or_bits hw hi) (fun j _ hj => by rw [show (j == i) = false from beq_eq_false_iff_ne.2 (fun e => hj (by rw [e]))]; rfl)
  have hor := or_word (ws.getD (i / 64) 0) (i % 64) hw64 (by omega)
  generalize ws.getD (i / 64) 0 = X at *
  have HO := Lib.hid hor; clear hor
  have HW := Lib.hid hw64; clear hw64
  have HM := Lib.hid hm; clear hm
  have i1 : (0 : Int) ≤ (i : Int) / 64 := by omega
  have i2 : (i : Int) / 64 < (ws.length : Int) := by omega
  have i3 : ((i : Int) / 64).toNat = i / 64 := by omega
  have i4 : ((i : Int) % 64).toNat = i % 64 := by omega
  go_enter Tryf.func13, Tryf.ntmps13
  go_wp2
  go_region_with (go_at_call 19; refine (wordsIndex_c i (by omega) _).mono ?_; rintro e w' ⟨rfl, rfl⟩)
  all_goals
    go_wp2
    go_ret
    refine ⟨rfl, ?_, (((Kept.refl _ _).drewN 1).setCell (by left; simp) _)⟩
    rw [HO.out]
    exact hst

set_option maxHeartbeats 1000000 in
/-- Set beyond the end: it is made longer first. -/
theorem setOut_c (b g n i : Nat) (f : Nat → Bool) (w : World) (h : BSet w b g n f) (hi : n ≤ i) (hn : i ≤ 20000) :
    Calls Tryf.prog 13 #[.pointer (some ⟨b, 0, none⟩), .int .u64 i] w fun e w' => e = .returned (.pointer (some ⟨b, 0, none⟩)) ∧ ∃ g', BSet w' b g' (i + 1) (fun j => (j == i) || (decide (j < n) && f j)) ∧ (g' = g ∨ w.heap.size ≤ g') ∧ Kept [b, g] w w' := by
  have hbg := h.lt
  have hc0 : w.cell? ⟨b, 0, none⟩ = some (.int .u64 n) := by obtain ⟨_, cap, ws, hh, _, _⟩ := h; exact hh.c0
  have i1 : (0 : Int) ≤ (i : Int) / 64 := by omega
  have i3 : ((i : Int) / 64).toNat = i / 64 := by omega
  have i4 : ((i : Int) % 64).toNat = i % 64 := by omega
  go_enter Tryf.func13, Tryf.ntmps13
  go_wp2_with fail
  refine (extendSet_c b g n i f w h hi hn).mono ?_
  rintro e w1 ⟨rfl, g', h1, hg', k1⟩
  obtain ⟨hne, cap, ws, hh, hr, hw⟩ := h1
  have hm := hw.length
  have hlt : i / 64 < ws.length := by omega
  have i2 : (i : Int) / 64 < (ws.length : Int) := by omega
  have hc1 := hh.c1
  have hX := hr.cell (i / 64) hlt
  have hF := hr.free (i / 64)
  have hle := hr.le
  have hw64 := hw.word (i / 64)
  have hst := BSet.store (f' := fun j => (j == i) || (decide (j < n) && f j)) hne hh hr hw (i / 64) (ws.getD (i / 64) 0 ||| 2 ^ (i % 64)) hlt (Nat.or_lt_two_pow hw64 (pow_lt _ (by omega))) (or_bits hw (by omega)) (fun j _ hj => by rw [show (j == i) = false from beq_eq_false_iff_ne.2 (fun e => hj (by rw [e]))]; rfl)
  have hor := or_word (ws.getD (i / 64) 0) (i % 64) hw64 (by omega)
  generalize ws.getD (i / 64) 0 = X at *
  have HO := Lib.hid hor; clear hor
  have HW := Lib.hid hw64; clear hw64
  have HM := Lib.hid hm; clear hm hc0
  have HG := Lib.hid hg'; clear hg'
  clear hr hh h hw
  go_wp2
  go_region_with (go_at_call 19; refine (wordsIndex_c i (by omega) _).mono ?_; rintro e w' ⟨rfl, rfl⟩)
  all_goals
    go_wp2
    go_ret
    refine ⟨rfl, g', ?_, HG.out, ((k1.drewN 1).setCell (by rcases HG.out with h | h; left; simp [h]; right; exact h) _)⟩
    rw [HO.out]
    exact hst

theorem set_c (b g n i : Nat) (f : Nat → Bool) (w : World) (h : BSet w b g n f) (hn : n ≤ 20001) (hi : i ≤ 20000) :
    Calls Tryf.prog 13 #[.pointer (some ⟨b, 0, none⟩), .int .u64 i] w fun e w' => e = .returned (.pointer (some ⟨b, 0, none⟩)) ∧ ∃ g', BSet w' b g' (max n (i + 1)) (fun j => (j == i) || (decide (j < n) && f j)) ∧ (g' = g ∨ w.heap.size ≤ g') ∧ Kept [b, g] w w' := by
  by_cases hin : i < n
  · refine (setIn_c b g n i f w h hin hn).mono fun e w' ⟨h1, h2, h3⟩ => ⟨h1, g, ?_, .inl rfl, h3⟩
    rw [show max n (i + 1) = n by omega]
    exact h2.congr fun j hj => by simp [hj]
  · refine (setOut_c b g n i f w h (by omega) hi).mono fun e w' ⟨h1, g', h2, h3⟩ => ⟨h1, g', ?_, h3⟩
    rw [show max n (i + 1) = i + 1 by omega]
    exact h2
end Go.Proofs.YthogmlblppcjoaaFmt

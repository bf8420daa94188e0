/-
  The contract of InPlaceIntersection; for sets of at most 20000 bits.
-/
import Derived.Test.YtbobddbndlckhaaTwo
import Derived.Test.YtbobddbndlckhaaMix
import Derived.Test.YtbobddbndlckhaaPart
namespace Go.Proofs.Ytbobddbndlckhaa
set_option linter.unusedSimpArgs false
set_option linter.unusedVariables false
open Go.RowKit

set_option maxHeartbeats 2000000 in
theorem inPlaceIntersectionZ_c (b1 g1 n1 b2 g2 n2 : Nat) (f1 f2 : Nat → Bool) (w : World) (h1 : BSet w b1 g1 n1 f1) (h2 : BSet w b2 g2 n2 f2) (hn1 : n1 ≤ 20000) (hn2 : n2 ≤ 20000) (ha : b1 ≠ b2 ∧ b1 ≠ g2 ∧ g1 ≠ b2 ∧ g1 ≠ g2) (hle : n2 = 0) :
    Calls Try.prog 54 #[.pointer (some ⟨b1, 0, none⟩), .pointer (some ⟨b2, 0, none⟩)] w fun e w' => e = .returned (.tuple #[]) ∧ ∃ g', BSet w' b1 g' (n1) (fun j => (decide (j < n1) && f1 j) && (decide (j < n2) && f2 j)) ∧ (g' = g1 ∨ w.heap.size ≤ g') ∧ Kept [b1, g1] w w' := by
  obtain ⟨ha1, ha2, ha3, ha4⟩ := ha
  obtain ⟨p1, hp1⟩ : ∃ p, (n1 + 63) / 64 = p := ⟨_, rfl⟩
  obtain ⟨p2, hp2⟩ : ∃ p, (n2 + 63) / 64 = p := ⟨_, rfl⟩
  have HP1 := Lib.hid hp1; have HP2 := Lib.hid hp2; clear hp1 hp2
  have hq1 : p1 ≤ 313 := by have := HP1.out; omega
  have hq2 : p2 ≤ 313 := by have := HP2.out; omega
  have hl2 := h2.lt
  have hl1 := h1.lt
  have le1 : ¬ (p1 : Int) < (p2 : Int) := by have := HP1.out; have := HP2.out; omega
  have le2 : decide (p1 < p2) = false := decide_eq_false (by omega)
  have c20 : w.cell? ⟨b2, 0, none⟩ = some (.int .u64 n2) := by obtain ⟨_, cap, ws, hh, _, _⟩ := h2; exact hh.c0
  have y1 : IntKind.u64.wrap ((n2 : Int) - 1) = (n2 : Int) - 1 ∨ n2 = 0 := by by_cases h : n2 = 0; exact .inr h; left; rw [IntKind.wrap_u64]; omega
  have y0 : ¬ (0 : Int) < (n2 : Int) := by omega
  have y0n : ¬ 0 < n2 := by omega
  have z0 : ¬ (0 : Int) < (p2 : Int) := by have := HP2.out; omega
  have z1 : ¬ 0 < p2 := by have := HP2.out; omega
  have hL0 : p2 ≤ p1 := by omega
  have hle := Lib.hid hle
  clear y1
  have h1c := h1
  have h2c := h2
  obtain ⟨hnex, capx, xs, hhx, hrx, hwx⟩ := h1c
  obtain ⟨hney, capy, ys, hhy, hry, hwy⟩ := h2c
  have hlx := hwx.length
  have hly := hwy.length
  have hcx := hrx.le
  have hcy := hry.le
  rw [HP1.out] at hlx
  rw [HP2.out] at hly
  rw [hlx] at hhx hcx
  rw [hly] at hhy hcy
  have HX := Lib.hid hlx; have HY := Lib.hid hly
  clear hlx hly
  have tx := hwx.testAt
  have ty := hwy.testAt
  have c1 := hhx.c1
  have c2 := hhy.c1
  go_enter Try.func54, Try.ntmps54
  go_wp2_with (go_at_call 75; refine (panicIfNull_c _ _).mono ?_; rintro e w' ⟨rfl, rfl⟩)
  refine (wordCount_c b2 g2 n2 f2 _ h2 (by omega)).mono ?_
  rintro e w' ⟨rfl, rfl⟩
  rw [HP2.out]
  go_wp2_with fail
  refine (wordCount_c b1 g1 n1 f1 _ h1 (by omega)).mono ?_
  rintro e w' ⟨rfl, rfl⟩
  rw [HP1.out]
  go_wp2_with fail
  have hst2 : Kept [g1] w w ∧ URow w g1 (part (fun q => decide (q < p2)) (fun q => 0) xs) capx := ⟨Kept.refl _ _, by rw [part_none _ _ _ (fun q _ => by simp; omega)]; exact hrx⟩
  go_wp2_with fail
  go_loopw [8] (fun v wr => ∃ k2 : Nat, p2 ≤ k2 ∧ k2 ≤ p1 ∧ v = .int .i64 k2 ∧ Kept [g1] w wr ∧ URow wr g1 (part (fun q => decide (q < k2)) (fun q => 0) xs) capx) (fun v _ => p1 - (intOf v).toNat)
  case atStart => exact ⟨p2, Nat.le_refl _, by omega, rfl, hst2⟩
  case round =>
    obtain ⟨k2, hka, hkb, rfl, r1, r3⟩ := hrel
    have hh1 := hhx.kept r1 (by simp [hnex])
    have hh2 := hhy.kept r1 (by simp; exact Ne.symm ha3)
    have c1 := hh1.c1
    have c10 := hh1.c0
    have c20 := hh2.c0
    by_cases hkm : k2 < p1
    · have hf := r3.free k2
      obtain ⟨u, hu⟩ := r3.any k2 (by omega)
      have R := r3.set k2 0
      rw [part_set (p' := fun q => decide (q < k2 + 1)) (g' := fun q => 0) (hx := fun _ => ⟨by simp, rfl⟩) (hp := fun q _ hq => ⟨by simp; omega, fun _ => rfl⟩)] at R
      have q1' := r1.setCell (p := ⟨g1, k2, none⟩) (by left; simp) (.int .u64 ((0 : Nat) : Int))
      have i0 : (0 : Int) ≤ (k2 : Int) := by omega
      have i2 : (k2 : Int) < (p1 : Int) := by omega
      go_wp2_with fail
      go_roundw
      case rel => exact ⟨k2 + 1, by omega, by omega, by go_num, q1', R⟩
      case measure => simp [intOf]; omega
    · have hkn : k2 = p1 := by omega
      subst hkn
      have hall : BSet wr b1 g1 n1 (fun j => (decide (j < n1) && f1 j) && (decide (j < n2) && f2 j)) := by
        refine ⟨hnex, capx, _, by rw [part_length, HX.out]; exact hh1, r3, ?_⟩
        refine part_ok _ _ _ _ hwx.length hwx.lt (fun q _ _ => by decide) (fun q t hq ht => ?_)
        have e1 := HP1.out; have e2 := HP2.out
        rw [HX.out] at hq
        rw [if_pos (by simpa using hq)]
        have c2 : decide (64 * q + t < n2) = false := decide_eq_false (by have := hle.out; omega)
        rw [c2, Nat.zero_testBit]; simp
      have kall := (Kept.refl [b1, g1] w).trans r1 (fun x hx => by simp at hx; subst hx; left; simp)
      go_wp2_with fail
      go_end0
      exact ⟨rfl, g1, hall, .inl rfl, kall⟩
set_option maxHeartbeats 2000000 in
theorem inPlaceIntersectionA_c (b1 g1 n1 b2 g2 n2 : Nat) (f1 f2 : Nat → Bool) (w : World) (h1 : BSet w b1 g1 n1 f1) (h2 : BSet w b2 g2 n2 f2) (hn1 : n1 ≤ 20000) (hn2 : n2 ≤ 20000) (ha : b1 ≠ b2 ∧ b1 ≠ g2 ∧ g1 ≠ b2 ∧ g1 ≠ g2) (hle : n2 ≤ n1) (hz : 0 < n2) :
    Calls Try.prog 54 #[.pointer (some ⟨b1, 0, none⟩), .pointer (some ⟨b2, 0, none⟩)] w fun e w' => e = .returned (.tuple #[]) ∧ ∃ g', BSet w' b1 g' (n1) (fun j => (decide (j < n1) && f1 j) && (decide (j < n2) && f2 j)) ∧ (g' = g1 ∨ w.heap.size ≤ g') ∧ Kept [b1, g1] w w' := by
  obtain ⟨ha1, ha2, ha3, ha4⟩ := ha
  obtain ⟨p1, hp1⟩ : ∃ p, (n1 + 63) / 64 = p := ⟨_, rfl⟩
  obtain ⟨p2, hp2⟩ : ∃ p, (n2 + 63) / 64 = p := ⟨_, rfl⟩
  have HP1 := Lib.hid hp1; have HP2 := Lib.hid hp2; clear hp1 hp2
  have hq1 : p1 ≤ 313 := by have := HP1.out; omega
  have hq2 : p2 ≤ 313 := by have := HP2.out; omega
  have hl2 := h2.lt
  have hl1 := h1.lt
  have le1 : ¬ (p1 : Int) < (p2 : Int) := by have := HP1.out; have := HP2.out; omega
  have le2 : decide (p1 < p2) = false := decide_eq_false (by omega)
  have c20 : w.cell? ⟨b2, 0, none⟩ = some (.int .u64 n2) := by obtain ⟨_, cap, ws, hh, _, _⟩ := h2; exact hh.c0
  have y1 : IntKind.u64.wrap ((n2 : Int) - 1) = (n2 : Int) - 1 ∨ n2 = 0 := by by_cases h : n2 = 0; exact .inr h; left; rw [IntKind.wrap_u64]; omega
  have y0 : (0 : Int) < (n2 : Int) := by omega
  have y0n : 0 < n2 := by omega
  have y1 : IntKind.u64.wrap ((n2 : Int) - 1) = (n2 : Int) - 1 := y1.resolve_right (by omega)
  have y2 : ¬ (n1 : Int) ≤ (n2 : Int) - 1 := by omega
  have hzl : 0 < p2 := by have := HP1.out; have := HP2.out; omega
  have z0 : (0 : Int) ≤ (p2 : Int) - 1 := by omega
  have z1 : (p2 : Int) - 1 < (p1 : Int) := by omega
  have z2 : (p2 : Int) - 1 < (p2 : Int) := by omega
  have z3 : ((p2 : Int) - 1).toNat = p2 - 1 := by omega
  have z4 : IntKind.i64.wrap ((p2 : Int) - 1) = (p2 : Int) - 1 := by rw [IntKind.wrap_i64]; omega
  have z5 : decide (p2 = 0) = false := by simp; omega
  have z6 : (0 : Int) < (p2 : Int) := by omega
  have h1c := h1
  have h2c := h2
  obtain ⟨hnex, capx, xs, hhx, hrx, hwx⟩ := h1c
  obtain ⟨hney, capy, ys, hhy, hry, hwy⟩ := h2c
  have hlx := hwx.length
  have hly := hwy.length
  have hcx := hrx.le
  have hcy := hry.le
  rw [HP1.out] at hlx
  rw [HP2.out] at hly
  rw [hlx] at hhx hcx
  rw [hly] at hhy hcy
  have HX := Lib.hid hlx; have HY := Lib.hid hly
  clear hlx hly
  have tx := hwx.testAt
  have ty := hwy.testAt
  have c1 := hhx.c1
  have c2 := hhy.c1
  have ex := hrx.cell (p2 - 1) (by rw [HX.out]; omega)
  have ey := hry.cell (p2 - 1) (by rw [HY.out]; omega)
  go_enter Try.func54, Try.ntmps54
  go_wp2_with (go_at_call 75; refine (panicIfNull_c _ _).mono ?_; rintro e w' ⟨rfl, rfl⟩)
  refine (wordCount_c b2 g2 n2 f2 _ h2 (by omega)).mono ?_
  rintro e w' ⟨rfl, rfl⟩
  rw [HP2.out]
  go_wp2_with fail
  refine (wordCount_c b1 g1 n1 f1 _ h1 (by omega)).mono ?_
  rintro e w' ⟨rfl, rfl⟩
  rw [HP1.out]
  go_wp2_with fail
  go_quiet (fail)
  go_wp2_with fail
  have hhx : Hdr (w.drewN nq) b1 n1 g1 p1 capx := hhx
  have hrx : URow (w.drewN nq) g1 xs capx := hrx
  have hry : URow (w.drewN nq) g2 ys capy := hry
  have hhy : Hdr (w.drewN nq) b2 n2 g2 p2 capy := hhy
  have kq : Kept [b1, g1] w (w.drewN nq) := (Kept.refl _ _).drewN nq
  have hsz : w.heap.size = (w.drewN nq).heap.size := rfl
  have hsz := Lib.hid hsz
  clear c1 c2 ex ey c20 h1 h2
  generalize w.drewN nq = W0 at *
  have hst : Kept [g1] W0 W0 ∧ URow W0 g1 (part (fun q => decide (q < 0)) (fun q => (fun a b => a &&& b) (xs.getD q 0) (ys.getD q 0)) xs) capx := ⟨Kept.refl _ _, by rw [part_none _ _ _ (fun q _ => by simp)]; exact hrx⟩
  go_loopw [7] (fun v wr => ∃ k : Nat, k ≤ p2 ∧ v = .int .i64 k ∧ Kept [g1] W0 wr ∧ URow wr g1 (part (fun q => decide (q < k)) (fun q => (fun a b => a &&& b) (xs.getD q 0) (ys.getD q 0)) xs) capx) (fun v _ => p2 - (intOf v).toNat)
  case atStart => exact ⟨0, Nat.zero_le _, rfl, hst⟩
  case round =>
    obtain ⟨k, hk, rfl, q1, q3⟩ := hrel
    by_cases hkm : k < p2
    · have cx := q3.cell k (by rw [part_length, HX.out]; omega)
      rw [part_getD _ _ _ _ (by rw [HX.out]; omega), if_neg (by simp)] at cx
      have cy := (hry.kept q1 (by simp; omega)).cell k (by rw [HY.out]; omega)
      have hf := q3.free k
      have hop := bits_and_nat (xs.getD k 0) (ys.getD k 0) (hwx.word k) (hwy.word k)
      have R := q3.set k ((fun a b => a &&& b) (xs.getD k 0) (ys.getD k 0))
      rw [part_set (p' := fun q => decide (q < k + 1)) (g' := fun q => (fun a b => a &&& b) (xs.getD q 0) (ys.getD q 0)) (hx := fun _ => ⟨by simp, rfl⟩) (hp := fun q _ hq => ⟨by simp; omega, fun _ => rfl⟩)] at R
      have q1' := q1.drew.setCell (p := ⟨g1, k, none⟩) (by left; simp) (.int .u64 (((fun a b => a &&& b) (xs.getD k 0) (ys.getD k 0) : Nat) : Int))
      have i0 : (0 : Int) ≤ (k : Int) := by omega
      have i1 : (k : Int) < (p1 : Int) := by omega
      have i2 : (k : Int) < (p2 : Int) := by omega
      generalize xs.getD k 0 = X at *
      generalize ys.getD k 0 = Y at *
      have HO := Lib.hid hop; clear hop
      go_wp2_with fail
      go_region
      all_goals
        go_wp2
        rw [HO.out]
        go_roundw
        case rel => exact ⟨k + 1, by omega, by go_num, q1', R⟩
        case measure => simp [intOf]; omega
    · have hkn : k = p2 := by omega
      subst hkn
      have hst2 : Kept [g1] W0 wr ∧ URow wr g1 (part (fun q => decide (q < k)) (fun q => if q < k then (fun a b => a &&& b) (xs.getD q 0) (ys.getD q 0) else 0) xs) capx := ⟨q1, by
        have e : part (fun q => decide (q < k)) (fun q => (fun a b => a &&& b) (xs.getD q 0) (ys.getD q 0)) xs = part (fun q => decide (q < k)) (fun q => if q < k then (fun a b => a &&& b) (xs.getD q 0) (ys.getD q 0) else 0) xs := by
          unfold part
          refine List.map_congr_left fun q _ => ?_
          by_cases c : q < k
          · simp [c]
          · simp [c]
        rw [← e]; exact q3⟩
      have hh1 := hhx.kept q1 (by simp [hnex])
      have c1 := hh1.c1
      clear hh1
      go_wp2_with fail
      go_loopw [8] (fun v wr => ∃ k2 : Nat, k ≤ k2 ∧ k2 ≤ p1 ∧ v = .int .i64 k2 ∧ Kept [g1] W0 wr ∧ URow wr g1 (part (fun q => decide (q < k2)) (fun q => if q < k then (fun a b => a &&& b) (xs.getD q 0) (ys.getD q 0) else 0) xs) capx) (fun v _ => p1 - (intOf v).toNat)
      case atStart => exact ⟨k, Nat.le_refl _, by omega, rfl, hst2⟩
      case round =>
        obtain ⟨k2, hka, hkb, rfl, r1, r3⟩ := hrel
        have hh1 := hhx.kept r1 (by simp [hnex])
        have hh2 := hhy.kept r1 (by simp; exact Ne.symm ha3)
        have c1 := hh1.c1
        have c10 := hh1.c0
        have c20 := hh2.c0
        by_cases hkm : k2 < p1
        · have hf := r3.free k2
          obtain ⟨u, hu⟩ := r3.any k2 (by omega)
          have R := r3.set k2 0
          rw [part_set (p' := fun q => decide (q < k2 + 1)) (g' := fun q => if q < k then (fun a b => a &&& b) (xs.getD q 0) (ys.getD q 0) else 0) (hx := fun _ => ⟨by simp, if_neg (by omega)⟩) (hp := fun q _ hq => ⟨by simp; omega, fun _ => rfl⟩)] at R
          have q1' := r1.setCell (p := ⟨g1, k2, none⟩) (by left; simp) (.int .u64 ((0 : Nat) : Int))
          have i0 : (0 : Int) ≤ (k2 : Int) := by omega
          have i2 : (k2 : Int) < (p1 : Int) := by omega
          go_wp2_with fail
          go_roundw
          case rel => exact ⟨k2 + 1, by omega, by omega, by go_num, q1', R⟩
          case measure => simp [intOf]; omega
        · have hkn : k2 = p1 := by omega
          subst hkn
          have hall : BSet wr b1 g1 n1 (fun j => (decide (j < n1) && f1 j) && (decide (j < n2) && f2 j)) := by
            refine ⟨hnex, capx, _, by rw [part_length, HX.out]; exact hh1, r3, ?_⟩
            refine part_ok _ _ _ _ hwx.length hwx.lt (fun q _ _ => by split; exact wand_lt _ _ (hwx.word q) (hwy.word q); decide) (fun q t hq ht => ?_)
            have e1 := HP1.out; have e2 := HP2.out
            rw [HX.out] at hq
            rw [if_pos (by simpa using hq)]
            by_cases c : q < k
            · rw [if_pos c, wand_bits, tx q t ht, ty q t ht]
              cases decide (64 * q + t < n1) <;> cases decide (64 * q + t < n2) <;> cases f1 (64 * q + t) <;> cases f2 (64 * q + t) <;> rfl
            · rw [if_neg c, Nat.zero_testBit]
              have c2 : decide (64 * q + t < n2) = false := decide_eq_false (by omega)
              rw [c2]; simp
          have kall := kq.trans r1 (fun x hx => by simp at hx; subst hx; left; simp)
          go_wp2_with fail
          go_quiet (fail)
          go_wp2_with fail
          go_end0
          exact ⟨rfl, g1, hall, .inl rfl, kall.drewN _⟩
set_option maxHeartbeats 2000000 in
theorem inPlaceIntersectionB_c (b1 g1 n1 b2 g2 n2 : Nat) (f1 f2 : Nat → Bool) (w : World) (h1 : BSet w b1 g1 n1 f1) (h2 : BSet w b2 g2 n2 f2) (hn1 : n1 ≤ 20000) (hn2 : n2 ≤ 20000) (ha : b1 ≠ b2 ∧ b1 ≠ g2 ∧ g1 ≠ b2 ∧ g1 ≠ g2) (hle : n1 < n2) (hq : ¬ (n1 + 63) / 64 < (n2 + 63) / 64) :
    Calls Try.prog 54 #[.pointer (some ⟨b1, 0, none⟩), .pointer (some ⟨b2, 0, none⟩)] w fun e w' => e = .returned (.tuple #[]) ∧ ∃ g', BSet w' b1 g' (n2) (fun j => (decide (j < n1) && f1 j) && (decide (j < n2) && f2 j)) ∧ (g' = g1 ∨ w.heap.size ≤ g') ∧ Kept [b1, g1] w w' := by
  obtain ⟨ha1, ha2, ha3, ha4⟩ := ha
  obtain ⟨p1, hp1⟩ : ∃ p, (n1 + 63) / 64 = p := ⟨_, rfl⟩
  obtain ⟨p2, hp2⟩ : ∃ p, (n2 + 63) / 64 = p := ⟨_, rfl⟩
  have HP1 := Lib.hid hp1; have HP2 := Lib.hid hp2; clear hp1 hp2
  have hq1 : p1 ≤ 313 := by have := HP1.out; omega
  have hq2 : p2 ≤ 313 := by have := HP2.out; omega
  have hl2 := h2.lt
  have hl1 := h1.lt
  have le1 : ¬ (p1 : Int) < (p2 : Int) := by have := HP1.out; have := HP2.out; omega
  have le2 : decide (p1 < p2) = false := decide_eq_false (by omega)
  have c20 : w.cell? ⟨b2, 0, none⟩ = some (.int .u64 n2) := by obtain ⟨_, cap, ws, hh, _, _⟩ := h2; exact hh.c0
  have y1 : IntKind.u64.wrap ((n2 : Int) - 1) = (n2 : Int) - 1 ∨ n2 = 0 := by by_cases h : n2 = 0; exact .inr h; left; rw [IntKind.wrap_u64]; omega
  have y0 : (0 : Int) < (n2 : Int) := by omega
  have y0n : 0 < n2 := by omega
  have y1 : IntKind.u64.wrap ((n2 : Int) - 1) = (n2 : Int) - 1 := y1.resolve_right (by omega)
  have y2 : (n1 : Int) ≤ (n2 : Int) - 1 := by omega
  have hzl : 0 < p2 := by have := HP1.out; have := HP2.out; omega
  have z0 : (0 : Int) ≤ (p2 : Int) - 1 := by omega
  have z1 : (p2 : Int) - 1 < (p1 : Int) := by omega
  have z2 : (p2 : Int) - 1 < (p2 : Int) := by omega
  have z3 : ((p2 : Int) - 1).toNat = p2 - 1 := by omega
  have z4 : IntKind.i64.wrap ((p2 : Int) - 1) = (p2 : Int) - 1 := by rw [IntKind.wrap_i64]; omega
  have z5 : decide (p2 = 0) = false := by simp; omega
  have z6 : (0 : Int) < (p2 : Int) := by omega
  have h1c := h1
  have h2c := h2
  obtain ⟨hnex, capx, xs, hhx, hrx, hwx⟩ := h1c
  obtain ⟨hney, capy, ys, hhy, hry, hwy⟩ := h2c
  have hlx := hwx.length
  have hly := hwy.length
  have hcx := hrx.le
  have hcy := hry.le
  rw [HP1.out] at hlx
  rw [HP2.out] at hly
  rw [hlx] at hhx hcx
  rw [hly] at hhy hcy
  have HX := Lib.hid hlx; have HY := Lib.hid hly
  clear hlx hly
  have tx := hwx.testAt
  have ty := hwy.testAt
  have c1 := hhx.c1
  have c2 := hhy.c1
  have ex := hrx.cell (p2 - 1) (by rw [HX.out]; omega)
  have ey := hry.cell (p2 - 1) (by rw [HY.out]; omega)
  go_enter Try.func54, Try.ntmps54
  go_wp2_with (go_at_call 75; refine (panicIfNull_c _ _).mono ?_; rintro e w' ⟨rfl, rfl⟩)
  refine (wordCount_c b2 g2 n2 f2 _ h2 (by omega)).mono ?_
  rintro e w' ⟨rfl, rfl⟩
  rw [HP2.out]
  go_wp2_with fail
  refine (wordCount_c b1 g1 n1 f1 _ h1 (by omega)).mono ?_
  rintro e w' ⟨rfl, rfl⟩
  rw [HP1.out]
  go_wp2_with fail
  go_quiet (fail)
  go_wp2_with fail
  have hhx : Hdr (w.drewN nq) b1 n1 g1 p1 capx := hhx
  have hrx : URow (w.drewN nq) g1 xs capx := hrx
  have hry : URow (w.drewN nq) g2 ys capy := hry
  have hhy : Hdr (w.drewN nq) b2 n2 g2 p2 capy := hhy
  have kq : Kept [b1, g1] w (w.drewN nq) := (Kept.refl _ _).drewN nq
  have hsz : w.heap.size = (w.drewN nq).heap.size := rfl
  have hsz := Lib.hid hsz
  clear c1 c2 ex ey c20 h1 h2
  generalize w.drewN nq = W0 at *
  have hst : Kept [g1] W0 W0 ∧ URow W0 g1 (part (fun q => decide (q < 0)) (fun q => (fun a b => a &&& b) (xs.getD q 0) (ys.getD q 0)) xs) capx := ⟨Kept.refl _ _, by rw [part_none _ _ _ (fun q _ => by simp)]; exact hrx⟩
  go_loopw [7] (fun v wr => ∃ k : Nat, k ≤ p2 ∧ v = .int .i64 k ∧ Kept [g1] W0 wr ∧ URow wr g1 (part (fun q => decide (q < k)) (fun q => (fun a b => a &&& b) (xs.getD q 0) (ys.getD q 0)) xs) capx) (fun v _ => p2 - (intOf v).toNat)
  case atStart => exact ⟨0, Nat.zero_le _, rfl, hst⟩
  case round =>
    obtain ⟨k, hk, rfl, q1, q3⟩ := hrel
    by_cases hkm : k < p2
    · have cx := q3.cell k (by rw [part_length, HX.out]; omega)
      rw [part_getD _ _ _ _ (by rw [HX.out]; omega), if_neg (by simp)] at cx
      have cy := (hry.kept q1 (by simp; omega)).cell k (by rw [HY.out]; omega)
      have hf := q3.free k
      have hop := bits_and_nat (xs.getD k 0) (ys.getD k 0) (hwx.word k) (hwy.word k)
      have R := q3.set k ((fun a b => a &&& b) (xs.getD k 0) (ys.getD k 0))
      rw [part_set (p' := fun q => decide (q < k + 1)) (g' := fun q => (fun a b => a &&& b) (xs.getD q 0) (ys.getD q 0)) (hx := fun _ => ⟨by simp, rfl⟩) (hp := fun q _ hq => ⟨by simp; omega, fun _ => rfl⟩)] at R
      have q1' := q1.drew.setCell (p := ⟨g1, k, none⟩) (by left; simp) (.int .u64 (((fun a b => a &&& b) (xs.getD k 0) (ys.getD k 0) : Nat) : Int))
      have i0 : (0 : Int) ≤ (k : Int) := by omega
      have i1 : (k : Int) < (p1 : Int) := by omega
      have i2 : (k : Int) < (p2 : Int) := by omega
      generalize xs.getD k 0 = X at *
      generalize ys.getD k 0 = Y at *
      have HO := Lib.hid hop; clear hop
      go_wp2_with fail
      go_region
      all_goals
        go_wp2
        rw [HO.out]
        go_roundw
        case rel => exact ⟨k + 1, by omega, by go_num, q1', R⟩
        case measure => simp [intOf]; omega
    · have hkn : k = p2 := by omega
      subst hkn
      have hst2 : Kept [g1] W0 wr ∧ URow wr g1 (part (fun q => decide (q < k)) (fun q => if q < k then (fun a b => a &&& b) (xs.getD q 0) (ys.getD q 0) else 0) xs) capx := ⟨q1, by
        have e : part (fun q => decide (q < k)) (fun q => (fun a b => a &&& b) (xs.getD q 0) (ys.getD q 0)) xs = part (fun q => decide (q < k)) (fun q => if q < k then (fun a b => a &&& b) (xs.getD q 0) (ys.getD q 0) else 0) xs := by
          unfold part
          refine List.map_congr_left fun q _ => ?_
          by_cases c : q < k
          · simp [c]
          · simp [c]
        rw [← e]; exact q3⟩
      have hh1 := hhx.kept q1 (by simp [hnex])
      have c1 := hh1.c1
      clear hh1
      go_wp2_with fail
      go_loopw [8] (fun v wr => ∃ k2 : Nat, k ≤ k2 ∧ k2 ≤ p1 ∧ v = .int .i64 k2 ∧ Kept [g1] W0 wr ∧ URow wr g1 (part (fun q => decide (q < k2)) (fun q => if q < k then (fun a b => a &&& b) (xs.getD q 0) (ys.getD q 0) else 0) xs) capx) (fun v _ => p1 - (intOf v).toNat)
      case atStart => exact ⟨k, Nat.le_refl _, by omega, rfl, hst2⟩
      case round =>
        obtain ⟨k2, hka, hkb, rfl, r1, r3⟩ := hrel
        have hh1 := hhx.kept r1 (by simp [hnex])
        have hh2 := hhy.kept r1 (by simp; exact Ne.symm ha3)
        have c1 := hh1.c1
        have c10 := hh1.c0
        have c20 := hh2.c0
        by_cases hkm : k2 < p1
        · have hf := r3.free k2
          obtain ⟨u, hu⟩ := r3.any k2 (by omega)
          have R := r3.set k2 0
          rw [part_set (p' := fun q => decide (q < k2 + 1)) (g' := fun q => if q < k then (fun a b => a &&& b) (xs.getD q 0) (ys.getD q 0) else 0) (hx := fun _ => ⟨by simp, if_neg (by omega)⟩) (hp := fun q _ hq => ⟨by simp; omega, fun _ => rfl⟩)] at R
          have q1' := r1.setCell (p := ⟨g1, k2, none⟩) (by left; simp) (.int .u64 ((0 : Nat) : Int))
          have i0 : (0 : Int) ≤ (k2 : Int) := by omega
          have i2 : (k2 : Int) < (p1 : Int) := by omega
          go_wp2_with fail
          go_roundw
          case rel => exact ⟨k2 + 1, by omega, by omega, by go_num, q1', R⟩
          case measure => simp [intOf]; omega
        · have hkn : k2 = p1 := by omega
          subst hkn
          have hall : BSet wr b1 g1 n1 (fun j => (decide (j < n1) && f1 j) && (decide (j < n2) && f2 j)) := by
            refine ⟨hnex, capx, _, by rw [part_length, HX.out]; exact hh1, r3, ?_⟩
            refine part_ok _ _ _ _ hwx.length hwx.lt (fun q _ _ => by split; exact wand_lt _ _ (hwx.word q) (hwy.word q); decide) (fun q t hq ht => ?_)
            have e1 := HP1.out; have e2 := HP2.out
            rw [HX.out] at hq
            rw [if_pos (by simpa using hq)]
            by_cases c : q < k
            · rw [if_pos c, wand_bits, tx q t ht, ty q t ht]
              cases decide (64 * q + t < n1) <;> cases decide (64 * q + t < n2) <;> cases f1 (64 * q + t) <;> cases f2 (64 * q + t) <;> rfl
            · rw [if_neg c, Nat.zero_testBit]
              have c2 : decide (64 * q + t < n2) = false := decide_eq_false (by omega)
              rw [c2]; simp
          have kall := kq.trans r1 (fun x hx => by simp at hx; subst hx; left; simp)
          have y3 : (n2 : Int) - 1 = ((n2 - 1 : Nat) : Int) := by omega
          have Y3 := Lib.hid y3; clear y3
          go_wp2_with fail
          go_quiet (fail)
          have hall : BSet (wr.drewN nq) b1 g1 n1 (fun j => (decide (j < n1) && f1 j) && (decide (j < n2) && f2 j)) := hall
          have c20 : (wr.drewN nq).cell? ⟨b2, 0, none⟩ = some (.int .u64 n2) := c20
          have kall : Kept [b1, g1] w (wr.drewN nq) := kall.drewN nq
          generalize wr.drewN nq = W9 at *
          go_wp2_with fail
          rw [Y3.out]
          refine (extendSet_c b1 g1 n1 (n2 - 1) _ _ hall (by omega) (by omega)).mono ?_
          rintro e w9 ⟨rfl, g', hx9, hg9, k9⟩
          have y4 : n2 - 1 + 1 = n2 := by omega
          rw [y4] at hx9
          clear y4
          go_wp2_with fail
          go_end0
          refine ⟨rfl, g', hx9.congr fun j hj => ?_, hg9.imp id (fun h => Nat.le_trans kall.size h), kall.trans k9 (fun x hx => .inl hx)⟩
          by_cases c1 : j < n1 <;> simp [c1, hj]
set_option maxHeartbeats 2000000 in
theorem inPlaceIntersectionC_c (b1 g1 n1 b2 g2 n2 : Nat) (f1 f2 : Nat → Bool) (w : World) (h1 : BSet w b1 g1 n1 f1) (h2 : BSet w b2 g2 n2 f2) (hn1 : n1 ≤ 20000) (hn2 : n2 ≤ 20000) (ha : b1 ≠ b2 ∧ b1 ≠ g2 ∧ g1 ≠ b2 ∧ g1 ≠ g2) (hle : n1 < n2) (hq : (n1 + 63) / 64 < (n2 + 63) / 64) (hz : (n1 + 63) / 64 = 0) :
    Calls Try.prog 54 #[.pointer (some ⟨b1, 0, none⟩), .pointer (some ⟨b2, 0, none⟩)] w fun e w' => e = .returned (.tuple #[]) ∧ ∃ g', BSet w' b1 g' (n2) (fun j => (decide (j < n1) && f1 j) && (decide (j < n2) && f2 j)) ∧ (g' = g1 ∨ w.heap.size ≤ g') ∧ Kept [b1, g1] w w' := by
  obtain ⟨ha1, ha2, ha3, ha4⟩ := ha
  obtain ⟨p1, hp1⟩ : ∃ p, (n1 + 63) / 64 = p := ⟨_, rfl⟩
  obtain ⟨p2, hp2⟩ : ∃ p, (n2 + 63) / 64 = p := ⟨_, rfl⟩
  have HP1 := Lib.hid hp1; have HP2 := Lib.hid hp2; clear hp1 hp2
  have hq1 : p1 ≤ 313 := by have := HP1.out; omega
  have hq2 : p2 ≤ 313 := by have := HP2.out; omega
  have hl2 := h2.lt
  have hl1 := h1.lt
  have le1 : (p1 : Int) < (p2 : Int) := by have := HP1.out; have := HP2.out; omega
  have le2 : decide (p1 < p2) = true := decide_eq_true (by omega)
  have c20 : w.cell? ⟨b2, 0, none⟩ = some (.int .u64 n2) := by obtain ⟨_, cap, ws, hh, _, _⟩ := h2; exact hh.c0
  have y1 : IntKind.u64.wrap ((n2 : Int) - 1) = (n2 : Int) - 1 ∨ n2 = 0 := by by_cases h : n2 = 0; exact .inr h; left; rw [IntKind.wrap_u64]; omega
  have y0 : (0 : Int) < (n2 : Int) := by omega
  have y0n : 0 < n2 := by omega
  have y1 : IntKind.u64.wrap ((n2 : Int) - 1) = (n2 : Int) - 1 := y1.resolve_right (by omega)
  have y2 : (n1 : Int) ≤ (n2 : Int) - 1 := by omega
  obtain rfl : p1 = 0 := by have := HP1.out; omega
  have h1c := h1
  have h2c := h2
  obtain ⟨hnex, capx, xs, hhx, hrx, hwx⟩ := h1c
  obtain ⟨hney, capy, ys, hhy, hry, hwy⟩ := h2c
  have hlx := hwx.length
  have hly := hwy.length
  have hcx := hrx.le
  have hcy := hry.le
  rw [HP1.out] at hlx
  rw [HP2.out] at hly
  rw [hlx] at hhx hcx
  rw [hly] at hhy hcy
  have HX := Lib.hid hlx; have HY := Lib.hid hly
  clear hlx hly
  have tx := hwx.testAt
  have ty := hwy.testAt
  have c1 := hhx.c1
  have c2 := hhy.c1
  go_enter Try.func54, Try.ntmps54
  go_wp2_with (go_at_call 75; refine (panicIfNull_c _ _).mono ?_; rintro e w' ⟨rfl, rfl⟩)
  refine (wordCount_c b2 g2 n2 f2 _ h2 (by omega)).mono ?_
  rintro e w' ⟨rfl, rfl⟩
  rw [HP2.out]
  go_wp2_with fail
  refine (wordCount_c b1 g1 n1 f1 _ h1 (by omega)).mono ?_
  rintro e w' ⟨rfl, rfl⟩
  rw [HP1.out]
  go_wp2_with fail
  refine (wordCount_c b1 g1 n1 f1 _ h1 (by omega)).mono ?_
  rintro e w' ⟨rfl, rfl⟩
  rw [HP1.out]
  go_wp2_with fail
  have hst2 : Kept [g1] w w ∧ URow w g1 (part (fun q => decide (q < 0)) (fun q => 0) xs) capx := ⟨Kept.refl _ _, by rw [part_none _ _ _ (fun q _ => by simp)]; exact hrx⟩
  go_wp2_with fail
  go_loopw [8] (fun v wr => ∃ k2 : Nat, 0 ≤ k2 ∧ k2 ≤ 0 ∧ v = .int .i64 k2 ∧ Kept [g1] w wr ∧ URow wr g1 (part (fun q => decide (q < k2)) (fun q => 0) xs) capx) (fun v _ => 0 - (intOf v).toNat)
  case atStart => exact ⟨0, Nat.le_refl _, by omega, rfl, hst2⟩
  case round =>
    obtain ⟨k2, hka, hkb, rfl, r1, r3⟩ := hrel
    have hh1 := hhx.kept r1 (by simp [hnex])
    have hh2 := hhy.kept r1 (by simp; exact Ne.symm ha3)
    have c1 := hh1.c1
    have c10 := hh1.c0
    have c20 := hh2.c0
    by_cases hkm : k2 < 0
    · exact absurd hkm (by omega)
    · have hkn : k2 = 0 := by omega
      subst hkn
      have hall : BSet wr b1 g1 n1 (fun j => (decide (j < n1) && f1 j) && (decide (j < n2) && f2 j)) := by
        refine ⟨hnex, capx, _, by rw [part_length, HX.out]; exact hh1, r3, ?_⟩
        refine part_ok _ _ _ _ hwx.length hwx.lt (fun q _ _ => by decide) (fun q t hq ht => ?_)
        have e1 := HP1.out; have e2 := HP2.out
        rw [HX.out] at hq
        omega
      have kall := (Kept.refl [b1, g1] w).trans r1 (fun x hx => by simp at hx; subst hx; left; simp)
      have y3 : (n2 : Int) - 1 = ((n2 - 1 : Nat) : Int) := by omega
      have Y3 := Lib.hid y3; clear y3
      go_wp2_with fail
      go_quiet (fail)
      have hall : BSet (wr.drewN nq) b1 g1 n1 (fun j => (decide (j < n1) && f1 j) && (decide (j < n2) && f2 j)) := hall
      have c20 : (wr.drewN nq).cell? ⟨b2, 0, none⟩ = some (.int .u64 n2) := c20
      have kall : Kept [b1, g1] w (wr.drewN nq) := kall.drewN nq
      generalize wr.drewN nq = W9 at *
      go_wp2_with fail
      rw [Y3.out]
      refine (extendSet_c b1 g1 n1 (n2 - 1) _ _ hall (by omega) (by omega)).mono ?_
      rintro e w9 ⟨rfl, g', hx9, hg9, k9⟩
      have y4 : n2 - 1 + 1 = n2 := by omega
      rw [y4] at hx9
      clear y4
      go_wp2_with fail
      go_end0
      refine ⟨rfl, g', hx9.congr fun j hj => ?_, hg9.imp id (fun h => Nat.le_trans kall.size h), kall.trans k9 (fun x hx => .inl hx)⟩
      by_cases c1 : j < n1 <;> simp [c1, hj]
set_option maxHeartbeats 2000000 in
theorem inPlaceIntersectionD_c (b1 g1 n1 b2 g2 n2 : Nat) (f1 f2 : Nat → Bool) (w : World) (h1 : BSet w b1 g1 n1 f1) (h2 : BSet w b2 g2 n2 f2) (hn1 : n1 ≤ 20000) (hn2 : n2 ≤ 20000) (ha : b1 ≠ b2 ∧ b1 ≠ g2 ∧ g1 ≠ b2 ∧ g1 ≠ g2) (hle : n1 < n2) (hq : (n1 + 63) / 64 < (n2 + 63) / 64) (hz : (n1 + 63) / 64 ≠ 0) :
    Calls Try.prog 54 #[.pointer (some ⟨b1, 0, none⟩), .pointer (some ⟨b2, 0, none⟩)] w fun e w' => e = .returned (.tuple #[]) ∧ ∃ g', BSet w' b1 g' (n2) (fun j => (decide (j < n1) && f1 j) && (decide (j < n2) && f2 j)) ∧ (g' = g1 ∨ w.heap.size ≤ g') ∧ Kept [b1, g1] w w' := by
  obtain ⟨ha1, ha2, ha3, ha4⟩ := ha
  obtain ⟨p1, hp1⟩ : ∃ p, (n1 + 63) / 64 = p := ⟨_, rfl⟩
  obtain ⟨p2, hp2⟩ : ∃ p, (n2 + 63) / 64 = p := ⟨_, rfl⟩
  have HP1 := Lib.hid hp1; have HP2 := Lib.hid hp2; clear hp1 hp2
  have hq1 : p1 ≤ 313 := by have := HP1.out; omega
  have hq2 : p2 ≤ 313 := by have := HP2.out; omega
  have hl2 := h2.lt
  have hl1 := h1.lt
  have le1 : (p1 : Int) < (p2 : Int) := by have := HP1.out; have := HP2.out; omega
  have le2 : decide (p1 < p2) = true := decide_eq_true (by omega)
  have c20 : w.cell? ⟨b2, 0, none⟩ = some (.int .u64 n2) := by obtain ⟨_, cap, ws, hh, _, _⟩ := h2; exact hh.c0
  have y1 : IntKind.u64.wrap ((n2 : Int) - 1) = (n2 : Int) - 1 ∨ n2 = 0 := by by_cases h : n2 = 0; exact .inr h; left; rw [IntKind.wrap_u64]; omega
  have y0 : (0 : Int) < (n2 : Int) := by omega
  have y0n : 0 < n2 := by omega
  have y1 : IntKind.u64.wrap ((n2 : Int) - 1) = (n2 : Int) - 1 := y1.resolve_right (by omega)
  have y2 : (n1 : Int) ≤ (n2 : Int) - 1 := by omega
  have hzl : 0 < p1 := by have := HP1.out; have := HP2.out; omega
  have z0 : (0 : Int) ≤ (p1 : Int) - 1 := by omega
  have z1 : (p1 : Int) - 1 < (p1 : Int) := by omega
  have z2 : (p1 : Int) - 1 < (p2 : Int) := by omega
  have z3 : ((p1 : Int) - 1).toNat = p1 - 1 := by omega
  have z4 : IntKind.i64.wrap ((p1 : Int) - 1) = (p1 : Int) - 1 := by rw [IntKind.wrap_i64]; omega
  have z5 : decide (p1 = 0) = false := by simp; omega
  have z6 : (0 : Int) < (p1 : Int) := by omega
  have h1c := h1
  have h2c := h2
  obtain ⟨hnex, capx, xs, hhx, hrx, hwx⟩ := h1c
  obtain ⟨hney, capy, ys, hhy, hry, hwy⟩ := h2c
  have hlx := hwx.length
  have hly := hwy.length
  have hcx := hrx.le
  have hcy := hry.le
  rw [HP1.out] at hlx
  rw [HP2.out] at hly
  rw [hlx] at hhx hcx
  rw [hly] at hhy hcy
  have HX := Lib.hid hlx; have HY := Lib.hid hly
  clear hlx hly
  have tx := hwx.testAt
  have ty := hwy.testAt
  have c1 := hhx.c1
  have c2 := hhy.c1
  have ex := hrx.cell (p1 - 1) (by rw [HX.out]; omega)
  have ey := hry.cell (p1 - 1) (by rw [HY.out]; omega)
  go_enter Try.func54, Try.ntmps54
  go_wp2_with (go_at_call 75; refine (panicIfNull_c _ _).mono ?_; rintro e w' ⟨rfl, rfl⟩)
  refine (wordCount_c b2 g2 n2 f2 _ h2 (by omega)).mono ?_
  rintro e w' ⟨rfl, rfl⟩
  rw [HP2.out]
  go_wp2_with fail
  refine (wordCount_c b1 g1 n1 f1 _ h1 (by omega)).mono ?_
  rintro e w' ⟨rfl, rfl⟩
  rw [HP1.out]
  go_wp2_with fail
  refine (wordCount_c b1 g1 n1 f1 _ h1 (by omega)).mono ?_
  rintro e w' ⟨rfl, rfl⟩
  rw [HP1.out]
  go_wp2_with fail
  go_quiet (fail)
  go_wp2_with fail
  have hhx : Hdr (w.drewN nq) b1 n1 g1 p1 capx := hhx
  have hrx : URow (w.drewN nq) g1 xs capx := hrx
  have hry : URow (w.drewN nq) g2 ys capy := hry
  have hhy : Hdr (w.drewN nq) b2 n2 g2 p2 capy := hhy
  have kq : Kept [b1, g1] w (w.drewN nq) := (Kept.refl _ _).drewN nq
  have hsz : w.heap.size = (w.drewN nq).heap.size := rfl
  have hsz := Lib.hid hsz
  clear c1 c2 ex ey c20 h1 h2
  generalize w.drewN nq = W0 at *
  have hst : Kept [g1] W0 W0 ∧ URow W0 g1 (part (fun q => decide (q < 0)) (fun q => (fun a b => a &&& b) (xs.getD q 0) (ys.getD q 0)) xs) capx := ⟨Kept.refl _ _, by rw [part_none _ _ _ (fun q _ => by simp)]; exact hrx⟩
  go_loopw [7] (fun v wr => ∃ k : Nat, k ≤ p1 ∧ v = .int .i64 k ∧ Kept [g1] W0 wr ∧ URow wr g1 (part (fun q => decide (q < k)) (fun q => (fun a b => a &&& b) (xs.getD q 0) (ys.getD q 0)) xs) capx) (fun v _ => p1 - (intOf v).toNat)
  case atStart => exact ⟨0, Nat.zero_le _, rfl, hst⟩
  case round =>
    obtain ⟨k, hk, rfl, q1, q3⟩ := hrel
    by_cases hkm : k < p1
    · have cx := q3.cell k (by rw [part_length, HX.out]; omega)
      rw [part_getD _ _ _ _ (by rw [HX.out]; omega), if_neg (by simp)] at cx
      have cy := (hry.kept q1 (by simp; omega)).cell k (by rw [HY.out]; omega)
      have hf := q3.free k
      have hop := bits_and_nat (xs.getD k 0) (ys.getD k 0) (hwx.word k) (hwy.word k)
      have R := q3.set k ((fun a b => a &&& b) (xs.getD k 0) (ys.getD k 0))
      rw [part_set (p' := fun q => decide (q < k + 1)) (g' := fun q => (fun a b => a &&& b) (xs.getD q 0) (ys.getD q 0)) (hx := fun _ => ⟨by simp, rfl⟩) (hp := fun q _ hq => ⟨by simp; omega, fun _ => rfl⟩)] at R
      have q1' := q1.drew.setCell (p := ⟨g1, k, none⟩) (by left; simp) (.int .u64 (((fun a b => a &&& b) (xs.getD k 0) (ys.getD k 0) : Nat) : Int))
      have i0 : (0 : Int) ≤ (k : Int) := by omega
      have i1 : (k : Int) < (p1 : Int) := by omega
      have i2 : (k : Int) < (p2 : Int) := by omega
      generalize xs.getD k 0 = X at *
      generalize ys.getD k 0 = Y at *
      have HO := Lib.hid hop; clear hop
      go_wp2_with fail
      go_region
      all_goals
        go_wp2
        rw [HO.out]
        go_roundw
        case rel => exact ⟨k + 1, by omega, by go_num, q1', R⟩
        case measure => simp [intOf]; omega
    · have hkn : k = p1 := by omega
      subst hkn
      have hst2 : Kept [g1] W0 wr ∧ URow wr g1 (part (fun q => decide (q < k)) (fun q => if q < k then (fun a b => a &&& b) (xs.getD q 0) (ys.getD q 0) else 0) xs) capx := ⟨q1, by
        have e : part (fun q => decide (q < k)) (fun q => (fun a b => a &&& b) (xs.getD q 0) (ys.getD q 0)) xs = part (fun q => decide (q < k)) (fun q => if q < k then (fun a b => a &&& b) (xs.getD q 0) (ys.getD q 0) else 0) xs := by
          unfold part
          refine List.map_congr_left fun q _ => ?_
          by_cases c : q < k
          · simp [c]
          · simp [c]
        rw [← e]; exact q3⟩
      have hh1 := hhx.kept q1 (by simp [hnex])
      have c1 := hh1.c1
      clear hh1
      go_wp2_with fail
      go_loopw [8] (fun v wr => ∃ k2 : Nat, k ≤ k2 ∧ k2 ≤ k ∧ v = .int .i64 k2 ∧ Kept [g1] W0 wr ∧ URow wr g1 (part (fun q => decide (q < k2)) (fun q => if q < k then (fun a b => a &&& b) (xs.getD q 0) (ys.getD q 0) else 0) xs) capx) (fun v _ => k - (intOf v).toNat)
      case atStart => exact ⟨k, Nat.le_refl _, by omega, rfl, hst2⟩
      case round =>
        obtain ⟨k2, hka, hkb, rfl, r1, r3⟩ := hrel
        have hh1 := hhx.kept r1 (by simp [hnex])
        have hh2 := hhy.kept r1 (by simp; exact Ne.symm ha3)
        have c1 := hh1.c1
        have c10 := hh1.c0
        have c20 := hh2.c0
        by_cases hkm : k2 < k
        · exact absurd hkm (by omega)
        · have hkn : k2 = k := by omega
          subst hkn
          have hall : BSet wr b1 g1 n1 (fun j => (decide (j < n1) && f1 j) && (decide (j < n2) && f2 j)) := by
            refine ⟨hnex, capx, _, by rw [part_length, HX.out]; exact hh1, r3, ?_⟩
            refine part_ok _ _ _ _ hwx.length hwx.lt (fun q _ _ => by split; exact wand_lt _ _ (hwx.word q) (hwy.word q); decide) (fun q t hq ht => ?_)
            have e1 := HP1.out; have e2 := HP2.out
            rw [HX.out] at hq
            rw [if_pos (by simpa using hq)]
            by_cases c : q < k2
            · rw [if_pos c, wand_bits, tx q t ht, ty q t ht]
              cases decide (64 * q + t < n1) <;> cases decide (64 * q + t < n2) <;> cases f1 (64 * q + t) <;> cases f2 (64 * q + t) <;> rfl
            · rw [if_neg c, Nat.zero_testBit]
              omega
          have kall := kq.trans r1 (fun x hx => by simp at hx; subst hx; left; simp)
          have y3 : (n2 : Int) - 1 = ((n2 - 1 : Nat) : Int) := by omega
          have Y3 := Lib.hid y3; clear y3
          go_wp2_with fail
          go_quiet (fail)
          have hall : BSet (wr.drewN nq) b1 g1 n1 (fun j => (decide (j < n1) && f1 j) && (decide (j < n2) && f2 j)) := hall
          have c20 : (wr.drewN nq).cell? ⟨b2, 0, none⟩ = some (.int .u64 n2) := c20
          have kall : Kept [b1, g1] w (wr.drewN nq) := kall.drewN nq
          generalize wr.drewN nq = W9 at *
          go_wp2_with fail
          rw [Y3.out]
          refine (extendSet_c b1 g1 n1 (n2 - 1) _ _ hall (by omega) (by omega)).mono ?_
          rintro e w9 ⟨rfl, g', hx9, hg9, k9⟩
          have y4 : n2 - 1 + 1 = n2 := by omega
          rw [y4] at hx9
          clear y4
          go_wp2_with fail
          go_end0
          refine ⟨rfl, g', hx9.congr fun j hj => ?_, hg9.imp id (fun h => Nat.le_trans kall.size h), kall.trans k9 (fun x hx => .inl hx)⟩
          by_cases c1 : j < n1 <;> simp [c1, hj]
theorem inPlaceIntersection_c (b1 g1 n1 b2 g2 n2 : Nat) (f1 f2 : Nat → Bool) (w : World) (h1 : BSet w b1 g1 n1 f1) (h2 : BSet w b2 g2 n2 f2) (hn1 : n1 ≤ 20000) (hn2 : n2 ≤ 20000) (ha : b1 ≠ b2 ∧ b1 ≠ g2 ∧ g1 ≠ b2 ∧ g1 ≠ g2) :
    Calls Try.prog 54 #[.pointer (some ⟨b1, 0, none⟩), .pointer (some ⟨b2, 0, none⟩)] w fun e w' => e = .returned (.tuple #[]) ∧ ∃ g', BSet w' b1 g' (max n1 n2) (fun j => (decide (j < n1) && f1 j) && (decide (j < n2) && f2 j)) ∧ (g' = g1 ∨ w.heap.size ≤ g') ∧ Kept [b1, g1] w w' := by
  by_cases hz : n2 = 0
  · rw [show max n1 n2 = n1 by omega]; exact inPlaceIntersectionZ_c b1 g1 n1 b2 g2 n2 f1 f2 w h1 h2 hn1 hn2 ha hz
  · by_cases hle : n2 ≤ n1
    · rw [show max n1 n2 = n1 by omega]; exact inPlaceIntersectionA_c b1 g1 n1 b2 g2 n2 f1 f2 w h1 h2 hn1 hn2 ha hle (by omega)
    · rw [show max n1 n2 = n2 by omega]
      by_cases hq : (n1 + 63) / 64 < (n2 + 63) / 64
      · by_cases hp : (n1 + 63) / 64 = 0
        · exact inPlaceIntersectionC_c b1 g1 n1 b2 g2 n2 f1 f2 w h1 h2 hn1 hn2 ha (by omega) hq hp
        · exact inPlaceIntersectionD_c b1 g1 n1 b2 g2 n2 f1 f2 w h1 h2 hn1 hn2 ha (by omega) hq hp
      · exact inPlaceIntersectionB_c b1 g1 n1 b2 g2 n2 f1 f2 w h1 h2 hn1 hn2 ha (by omega) hq

end Go.Proofs.Ytbobddbndlckhaa

/-
  The contract of InPlaceSymmetricDifference; for sets of at most 20000 bits.
-/
import Derived.Test.YtbobddbndlckhaaTwo
import Derived.Test.YtbobddbndlckhaaMix
import Derived.Test.YtbobddbndlckhaaPart
namespace Go.Proofs.Ytbobddbndlckhaa
set_option linter.unusedSimpArgs false
set_option linter.unusedVariables false
open Go.RowKit

set_option maxHeartbeats 2000000 in
theorem inPlaceSymmetricDifferenceZ_c (b1 g1 n1 b2 g2 n2 : Nat) (f1 f2 : Nat → Bool) (w : World) (h1 : BSet w b1 g1 n1 f1) (h2 : BSet w b2 g2 n2 f2) (hn1 : n1 ≤ 20000) (hn2 : n2 ≤ 20000) (ha : b1 ≠ b2 ∧ b1 ≠ g2 ∧ g1 ≠ b2 ∧ g1 ≠ g2) (hle : n2 = 0) :
    Calls Try.prog 52 #[.pointer (some ⟨b1, 0, none⟩), .pointer (some ⟨b2, 0, none⟩)] w fun e w' => e = .returned (.tuple #[]) ∧ ∃ g', BSet w' b1 g' (n1) (fun j => (decide (j < n1) && f1 j) ^^ (decide (j < n2) && f2 j)) ∧ (g' = g1 ∨ w.heap.size ≤ g') ∧ Kept [b1, g1] w w' := by
  obtain ⟨ha1, ha2, ha3, ha4⟩ := ha
  obtain ⟨p1, hp1⟩ : ∃ p, (n1 + 63) / 64 = p := ⟨_, rfl⟩
  obtain ⟨p2, hp2⟩ : ∃ p, (n2 + 63) / 64 = p := ⟨_, rfl⟩
  have HP1 := Lib.hid hp1; have HP2 := Lib.hid hp2; clear hp1 hp2
  have hq1 : p1 ≤ 313 := by have := HP1.out; omega
  have hq2 : p2 ≤ 313 := by have := HP2.out; omega
  have hl2 := h2.lt
  have hl1 := h1.lt
  have le1 : ¬ (p1 : Int) < (p2 : Int) := by have := HP1.out; have := HP2.out; omega
  have le2 : decide (p1 < p2) = false := decide_eq_false (by omega)
  have hp0 : p2 = 0 := by have := HP2.out; omega
  have c10 : w.cell? ⟨b1, 0, none⟩ = some (.int .u64 n1) := by obtain ⟨_, cap, ws, hh, _, _⟩ := h1; exact hh.c0
  have c20 : w.cell? ⟨b2, 0, none⟩ = some (.int .u64 n2) := by obtain ⟨_, cap, ws, hh, _, _⟩ := h2; exact hh.c0
  have c21 : ∃ ad c, w.cell? ⟨b2, 1, none⟩ = some (.slice ad p2 c) := by
    obtain ⟨_, cap, ws, hh, _, hw⟩ := h2
    have h := hh.c1
    rw [show ws.length = p2 by rw [hw.length, HP2.out]] at h
    exact ⟨_, _, h⟩
  obtain ⟨ad2, cp2, c21⟩ := c21
  have y0 : ¬ (0 : Int) < (n2 : Int) := by omega
  have y1 : ¬ 0 < n2 := by omega
  have z0 : ¬ (0 : Int) < (p2 : Int) := by omega
  have z1 : ¬ 0 < p2 := by omega
  have hle := Lib.hid hle
  clear hp0
  go_enter Try.func52, Try.ntmps52
  go_wp2_with (go_at_call 75; refine (panicIfNull_c _ _).mono ?_; rintro e w' ⟨rfl, rfl⟩)
  refine (wordCount_c b2 g2 n2 f2 _ h2 (by omega)).mono ?_
  rintro e w' ⟨rfl, rfl⟩
  rw [HP2.out]
  go_wp2_with fail
  refine (wordCount_c b1 g1 n1 f1 _ h1 (by omega)).mono ?_
  rintro e w' ⟨rfl, rfl⟩
  rw [HP1.out]
  go_wp2_with fail
  go_quiet (fail)
  go_wp2_with fail
  go_end0
  refine ⟨rfl, g1, ?_, .inl rfl, (Kept.refl _ _).drewN _⟩
  exact BSet.drewN (h1.congr fun j hj => by have : ¬ j < n2 := by have := hle.out; omega
                                            simp [hj, this]) _
set_option maxHeartbeats 2000000 in
theorem inPlaceSymmetricDifferenceA_c (b1 g1 n1 b2 g2 n2 : Nat) (f1 f2 : Nat → Bool) (w : World) (h1 : BSet w b1 g1 n1 f1) (h2 : BSet w b2 g2 n2 f2) (hn1 : n1 ≤ 20000) (hn2 : n2 ≤ 20000) (ha : b1 ≠ b2 ∧ b1 ≠ g2 ∧ g1 ≠ b2 ∧ g1 ≠ g2) (hle : n2 ≤ n1) (hz : 0 < n2) :
    Calls Try.prog 52 #[.pointer (some ⟨b1, 0, none⟩), .pointer (some ⟨b2, 0, none⟩)] w fun e w' => e = .returned (.tuple #[]) ∧ ∃ g', BSet w' b1 g' (n1) (fun j => (decide (j < n1) && f1 j) ^^ (decide (j < n2) && f2 j)) ∧ (g' = g1 ∨ w.heap.size ≤ g') ∧ Kept [b1, g1] w w' := by
  obtain ⟨ha1, ha2, ha3, ha4⟩ := ha
  obtain ⟨p1, hp1⟩ : ∃ p, (n1 + 63) / 64 = p := ⟨_, rfl⟩
  obtain ⟨p2, hp2⟩ : ∃ p, (n2 + 63) / 64 = p := ⟨_, rfl⟩
  have HP1 := Lib.hid hp1; have HP2 := Lib.hid hp2; clear hp1 hp2
  have hq1 : p1 ≤ 313 := by have := HP1.out; omega
  have hq2 : p2 ≤ 313 := by have := HP2.out; omega
  have hl2 := h2.lt
  have hl1 := h1.lt
  have le1 : ¬ (p1 : Int) < (p2 : Int) := by have := HP1.out; have := HP2.out; omega
  have le2 : decide (p1 < p2) = false := decide_eq_false (by omega)
  have c10 : w.cell? ⟨b1, 0, none⟩ = some (.int .u64 n1) := by obtain ⟨_, cap, ws, hh, _, _⟩ := h1; exact hh.c0
  have c20 : w.cell? ⟨b2, 0, none⟩ = some (.int .u64 n2) := by obtain ⟨_, cap, ws, hh, _, _⟩ := h2; exact hh.c0
  have y0 : (0 : Int) < (n2 : Int) := by omega
  have y0n : 0 < n2 := by omega
  have y1 : IntKind.u64.wrap ((n2 : Int) - 1) = (n2 : Int) - 1 := by rw [IntKind.wrap_u64]; omega
  have y2 : ¬ (n1 : Int) ≤ (n2 : Int) - 1 := by omega
  have hzl : 0 < p2 := by have := HP1.out; have := HP2.out; omega
  have z0 : (0 : Int) ≤ (p2 : Int) - 1 := by omega
  have z1 : (p2 : Int) - 1 < (p1 : Int) := by omega
  have z2 : (p2 : Int) - 1 < (p2 : Int) := by omega
  have z3 : ((p2 : Int) - 1).toNat = p2 - 1 := by omega
  have z4 : IntKind.i64.wrap ((p2 : Int) - 1) = (p2 : Int) - 1 := by rw [IntKind.wrap_i64]; omega
  have z5 : decide (p2 = 0) = false := by simp; omega
  have z6 : (0 : Int) < (p2 : Int) := by omega
  go_enter Try.func52, Try.ntmps52
  go_wp2_with (go_at_call 75; refine (panicIfNull_c _ _).mono ?_; rintro e w' ⟨rfl, rfl⟩)
  refine (wordCount_c b2 g2 n2 f2 _ h2 (by omega)).mono ?_
  rintro e w' ⟨rfl, rfl⟩
  rw [HP2.out]
  go_wp2_with fail
  refine (wordCount_c b1 g1 n1 f1 _ h1 (by omega)).mono ?_
  rintro e w' ⟨rfl, rfl⟩
  rw [HP1.out]
  go_wp2_with fail
  go_quiet (fail)
  have hx : BSet (w.drewN nq) b1 g1 n1 f1 := h1
  have hy : BSet (w.drewN nq) b2 g2 n2 f2 := h2
  have kq : Kept [b1, g1] w (w.drewN nq) := (Kept.refl _ _).drewN nq
  have hg2a := ha4
  have hg2b := ha3
  clear c10 c20 h1 h2 y2
  generalize w.drewN nq = w1 at *
  obtain ⟨hnex, capx, xs, hhx, hrx, hwx⟩ := hx
  obtain ⟨hney, capy, ys, hhy, hry, hwy⟩ := hy
  have hlx := hwx.length
  have hly := hwy.length
  have hcx := hrx.le
  have hcy := hry.le
  rw [HP1.out] at hlx
  rw [HP2.out] at hly
  rw [hlx] at hhx hcx
  rw [hly] at hhy hcy
  have HX := Lib.hid hlx; have HY := Lib.hid hly
  clear hlx hly
  have tx := hwx.testAt
  have ty := hwy.testAt
  have c1 := hhx.c1
  have c2 := hhy.c1
  have ex := hrx.cell (p2 - 1) (by rw [HX.out]; omega)
  have ey := hry.cell (p2 - 1) (by rw [HY.out]; omega)
  go_wp2_with fail
  go_quiet (fail)
  go_wp2_with fail
  have hhx : Hdr (w1.drewN nq) b1 n1 g1 p1 capx := hhx
  have hrx : URow (w1.drewN nq) g1 xs capx := hrx
  have hry : URow (w1.drewN nq) g2 ys capy := hry
  have hhy : Hdr (w1.drewN nq) b2 n2 g2 p2 capy := hhy
  have kq : Kept [b1, g1] w (w1.drewN nq) := kq.drewN nq
  clear c1 c2 ex ey
  generalize w1.drewN nq = W0 at *
  have hst : Kept [g1] W0 W0 ∧ URow W0 g1 (part (fun q => decide (q < 0)) (fun q => (fun a b => a ^^^ b) (xs.getD q 0) (ys.getD q 0)) xs) capx := ⟨Kept.refl _ _, by rw [part_none _ _ _ (fun q _ => by simp)]; exact hrx⟩
  go_loopw [7] (fun v wr => ∃ k : Nat, k ≤ p2 ∧ v = .int .i64 k ∧ Kept [g1] W0 wr ∧ URow wr g1 (part (fun q => decide (q < k)) (fun q => (fun a b => a ^^^ b) (xs.getD q 0) (ys.getD q 0)) xs) capx) (fun v _ => p2 - (intOf v).toNat)
  case atStart => exact ⟨0, Nat.zero_le _, rfl, hst⟩
  case round =>
    obtain ⟨k, hk, rfl, q1, q3⟩ := hrel
    by_cases hkm : k < p2
    · have cx := q3.cell k (by rw [part_length, HX.out]; omega)
      rw [part_getD _ _ _ _ (by rw [HX.out]; omega), if_neg (by simp)] at cx
      have cy := (hry.kept q1 (by simp; omega)).cell k (by rw [HY.out]; omega)
      have hf := q3.free k
      have hop := bits_xor_nat (xs.getD k 0) (ys.getD k 0) (hwx.word k) (hwy.word k)
      have R := q3.set k ((fun a b => a ^^^ b) (xs.getD k 0) (ys.getD k 0))
      rw [part_set (p' := fun q => decide (q < k + 1)) (g' := fun q => (fun a b => a ^^^ b) (xs.getD q 0) (ys.getD q 0)) (hx := fun _ => ⟨by simp, rfl⟩) (hp := fun q _ hq => ⟨by simp; omega, fun _ => rfl⟩)] at R
      have q1' := q1.drew.setCell (p := ⟨g1, k, none⟩) (by left; simp) (.int .u64 (((fun a b => a ^^^ b) (xs.getD k 0) (ys.getD k 0) : Nat) : Int))
      have i0 : (0 : Int) ≤ (k : Int) := by omega
      have i1 : (k : Int) < (p1 : Int) := by omega
      have i2 : (k : Int) < (p2 : Int) := by omega
      generalize xs.getD k 0 = X at *
      generalize ys.getD k 0 = Y at *
      have HO := Lib.hid hop; clear hop
      go_wp2_with fail
      go_region
      all_goals
        go_wp2
        rw [HO.out]
        go_roundw
        case rel => exact ⟨k + 1, by omega, by go_num, q1', R⟩
        case measure => simp [intOf]; omega
    · have hkn : k = p2 := by omega
      subst hkn
      have hh1 := hhx.kept q1 (by simp [hnex])
      have hh2 := hhy.kept q1 (by simp; exact Ne.symm hg2b)
      have c1 := hh1.c1
      have c2 := hh2.c1
      go_wp2_with fail
      go_end0
      refine ⟨rfl, g1, ⟨hnex, capx, _, ?_, q3, ?_⟩, .inl rfl, kq.trans q1 ?_⟩
      · rw [part_length, HX.out]; exact hh1
      · refine part_ok _ _ _ _ hwx.length hwx.lt (fun q _ _ => wxor_lt _ _ (hwx.word q) (hwy.word q)) (fun q t hq ht => ?_)
        have e1 := HP1.out; have e2 := HP2.out
        rw [HX.out] at hq
        rw [wxor_bits, tx q t ht, ty q t ht]
        by_cases c : q < k
        · rw [if_pos (by simpa using c)]
          by_cases c1 : 64 * q + t < n1
          · rw [decide_eq_true c1]
            cases decide (64 * q + t < n2) <;> cases f1 (64 * q + t) <;> cases f2 (64 * q + t) <;> simp <;> omega
          · rw [decide_eq_false c1]
            by_cases c2 : 64 * q + t < n2
            · rw [decide_eq_true c2]; cases f1 (64 * q + t) <;> cases f2 (64 * q + t) <;> simp <;> omega
            · rw [decide_eq_false c2]; cases f1 (64 * q + t) <;> cases f2 (64 * q + t) <;> rfl
        · rw [if_neg (by simpa using c)]
          have c2 : ¬ 64 * q + t < n2 := by omega
          have c1 : decide (64 * q + t < n2) = false := decide_eq_false c2
          rw [c1]
          cases decide (64 * q + t < n1) <;> cases f1 (64 * q + t) <;> simp
      · intro x hx
        simp at hx
        subst hx
        left; simp
set_option maxHeartbeats 2000000 in
theorem inPlaceSymmetricDifferenceB_c (b1 g1 n1 b2 g2 n2 : Nat) (f1 f2 : Nat → Bool) (w : World) (h1 : BSet w b1 g1 n1 f1) (h2 : BSet w b2 g2 n2 f2) (hn1 : n1 ≤ 20000) (hn2 : n2 ≤ 20000) (ha : b1 ≠ b2 ∧ b1 ≠ g2 ∧ g1 ≠ b2 ∧ g1 ≠ g2) (hle : n1 < n2) (hq : ¬ (n1 + 63) / 64 < (n2 + 63) / 64) :
    Calls Try.prog 52 #[.pointer (some ⟨b1, 0, none⟩), .pointer (some ⟨b2, 0, none⟩)] w fun e w' => e = .returned (.tuple #[]) ∧ ∃ g', BSet w' b1 g' (n2) (fun j => (decide (j < n1) && f1 j) ^^ (decide (j < n2) && f2 j)) ∧ (g' = g1 ∨ w.heap.size ≤ g') ∧ Kept [b1, g1] w w' := by
  obtain ⟨ha1, ha2, ha3, ha4⟩ := ha
  obtain ⟨p1, hp1⟩ : ∃ p, (n1 + 63) / 64 = p := ⟨_, rfl⟩
  obtain ⟨p2, hp2⟩ : ∃ p, (n2 + 63) / 64 = p := ⟨_, rfl⟩
  have HP1 := Lib.hid hp1; have HP2 := Lib.hid hp2; clear hp1 hp2
  have hq1 : p1 ≤ 313 := by have := HP1.out; omega
  have hq2 : p2 ≤ 313 := by have := HP2.out; omega
  have hl2 := h2.lt
  have hl1 := h1.lt
  have le1 : ¬ (p1 : Int) < (p2 : Int) := by have := HP1.out; have := HP2.out; omega
  have le2 : decide (p1 < p2) = false := decide_eq_false (by omega)
  have c10 : w.cell? ⟨b1, 0, none⟩ = some (.int .u64 n1) := by obtain ⟨_, cap, ws, hh, _, _⟩ := h1; exact hh.c0
  have c20 : w.cell? ⟨b2, 0, none⟩ = some (.int .u64 n2) := by obtain ⟨_, cap, ws, hh, _, _⟩ := h2; exact hh.c0
  have y0 : (0 : Int) < (n2 : Int) := by omega
  have y0n : 0 < n2 := by omega
  have y1 : IntKind.u64.wrap ((n2 : Int) - 1) = (n2 : Int) - 1 := by rw [IntKind.wrap_u64]; omega
  have y2 : (n1 : Int) ≤ (n2 : Int) - 1 := by omega
  have hzl : 0 < p2 := by have := HP1.out; have := HP2.out; omega
  have z0 : (0 : Int) ≤ (p2 : Int) - 1 := by omega
  have z1 : (p2 : Int) - 1 < (p1 : Int) := by omega
  have z2 : (p2 : Int) - 1 < (p2 : Int) := by omega
  have z3 : ((p2 : Int) - 1).toNat = p2 - 1 := by omega
  have z4 : IntKind.i64.wrap ((p2 : Int) - 1) = (p2 : Int) - 1 := by rw [IntKind.wrap_i64]; omega
  have z5 : decide (p2 = 0) = false := by simp; omega
  have z6 : (0 : Int) < (p2 : Int) := by omega
  go_enter Try.func52, Try.ntmps52
  go_wp2_with (go_at_call 75; refine (panicIfNull_c _ _).mono ?_; rintro e w' ⟨rfl, rfl⟩)
  refine (wordCount_c b2 g2 n2 f2 _ h2 (by omega)).mono ?_
  rintro e w' ⟨rfl, rfl⟩
  rw [HP2.out]
  go_wp2_with fail
  refine (wordCount_c b1 g1 n1 f1 _ h1 (by omega)).mono ?_
  rintro e w' ⟨rfl, rfl⟩
  rw [HP1.out]
  go_wp2_with fail
  go_quiet (fail)
  have y3 : (n2 : Int) - 1 = ((n2 - 1 : Nat) : Int) := by omega
  have Y3 := Lib.hid y3; clear y3
  have c20 : (w.drewN nq).cell? ⟨b2, 0, none⟩ = some (.int .u64 n2) := c20
  have hx0 : BSet (w.drewN nq) b1 g1 n1 f1 := h1
  have hy0 : BSet (w.drewN nq) b2 g2 n2 f2 := h2
  have kq : Kept [b1, g1] w (w.drewN nq) := (Kept.refl _ _).drewN nq
  have hsz : w.heap.size = (w.drewN nq).heap.size := rfl
  have hsz := Lib.hid hsz
  generalize w.drewN nq = Wq at *
  go_wp2_with fail
  rw [Y3.out]
  refine (extendSet_c b1 g1 n1 (n2 - 1) f1 _ hx0 (by omega) (by omega)).mono ?_
  rintro e w1 ⟨rfl, g', hx, hg', k1⟩
  have hy := hy0.kept k1 (by simp; omega) (by simp; omega)
  have y4 : n2 - 1 + 1 = n2 := by omega
  rw [y4] at hx
  clear y4
  have hg2 : g' ≠ g2 ∧ g' ≠ b2 := by have := hsz.out; rcases hg' with h | h <;> omega
  obtain ⟨hg2a, hg2b⟩ := hg2
  have HG := Lib.hid hg'; clear hg'
  have kq := kq.trans k1 (fun x hx => .inl hx)
  clear c10 c20 hx0 hy0 h1 h2 k1 y2
  obtain ⟨hnex, capx, xs, hhx, hrx, hwx⟩ := hx
  obtain ⟨hney, capy, ys, hhy, hry, hwy⟩ := hy
  have hlx := hwx.length
  have hly := hwy.length
  have hcx := hrx.le
  have hcy := hry.le
  rw [HP2.out] at hlx
  rw [HP2.out] at hly
  rw [hlx] at hhx hcx
  rw [hly] at hhy hcy
  have HX := Lib.hid hlx; have HY := Lib.hid hly
  clear hlx hly
  have tx := hwx.testAt
  have ty := hwy.testAt
  have c1 := hhx.c1
  have c2 := hhy.c1
  have ex := hrx.cell (p2 - 1) (by rw [HX.out]; omega)
  have ey := hry.cell (p2 - 1) (by rw [HY.out]; omega)
  go_wp2_with fail
  go_quiet (fail)
  go_wp2_with fail
  have hhx : Hdr (w1.drewN nq) b1 n2 g' p2 capx := hhx
  have hrx : URow (w1.drewN nq) g' xs capx := hrx
  have hry : URow (w1.drewN nq) g2 ys capy := hry
  have hhy : Hdr (w1.drewN nq) b2 n2 g2 p2 capy := hhy
  have kq : Kept [b1, g1] w (w1.drewN nq) := kq.drewN nq
  clear c1 c2 ex ey
  generalize w1.drewN nq = W0 at *
  have hst : Kept [g'] W0 W0 ∧ URow W0 g' (part (fun q => decide (q < 0)) (fun q => (fun a b => a ^^^ b) (xs.getD q 0) (ys.getD q 0)) xs) capx := ⟨Kept.refl _ _, by rw [part_none _ _ _ (fun q _ => by simp)]; exact hrx⟩
  go_loopw [7] (fun v wr => ∃ k : Nat, k ≤ p2 ∧ v = .int .i64 k ∧ Kept [g'] W0 wr ∧ URow wr g' (part (fun q => decide (q < k)) (fun q => (fun a b => a ^^^ b) (xs.getD q 0) (ys.getD q 0)) xs) capx) (fun v _ => p2 - (intOf v).toNat)
  case atStart => exact ⟨0, Nat.zero_le _, rfl, hst⟩
  case round =>
    obtain ⟨k, hk, rfl, q1, q3⟩ := hrel
    by_cases hkm : k < p2
    · have cx := q3.cell k (by rw [part_length, HX.out]; omega)
      rw [part_getD _ _ _ _ (by rw [HX.out]; omega), if_neg (by simp)] at cx
      have cy := (hry.kept q1 (by simp; omega)).cell k (by rw [HY.out]; omega)
      have hf := q3.free k
      have hop := bits_xor_nat (xs.getD k 0) (ys.getD k 0) (hwx.word k) (hwy.word k)
      have R := q3.set k ((fun a b => a ^^^ b) (xs.getD k 0) (ys.getD k 0))
      rw [part_set (p' := fun q => decide (q < k + 1)) (g' := fun q => (fun a b => a ^^^ b) (xs.getD q 0) (ys.getD q 0)) (hx := fun _ => ⟨by simp, rfl⟩) (hp := fun q _ hq => ⟨by simp; omega, fun _ => rfl⟩)] at R
      have q1' := q1.drew.setCell (p := ⟨g', k, none⟩) (by left; simp) (.int .u64 (((fun a b => a ^^^ b) (xs.getD k 0) (ys.getD k 0) : Nat) : Int))
      have i0 : (0 : Int) ≤ (k : Int) := by omega
      have i1 : (k : Int) < (p2 : Int) := by omega
      have i2 : (k : Int) < (p2 : Int) := by omega
      generalize xs.getD k 0 = X at *
      generalize ys.getD k 0 = Y at *
      have HO := Lib.hid hop; clear hop
      go_wp2_with fail
      go_region
      all_goals
        go_wp2
        rw [HO.out]
        go_roundw
        case rel => exact ⟨k + 1, by omega, by go_num, q1', R⟩
        case measure => simp [intOf]; omega
    · have hkn : k = p2 := by omega
      subst hkn
      have hh1 := hhx.kept q1 (by simp [hnex])
      have hh2 := hhy.kept q1 (by simp; exact Ne.symm hg2b)
      have c1 := hh1.c1
      have c2 := hh2.c1
      go_wp2_with fail
      go_end0
      refine ⟨rfl, g', ⟨hnex, capx, _, ?_, q3, ?_⟩, HG.out.imp id (fun h => by have := hsz.out; omega), kq.trans q1 ?_⟩
      · rw [part_length, HX.out]; exact hh1
      · refine part_ok _ _ _ _ hwx.length hwx.lt (fun q _ _ => wxor_lt _ _ (hwx.word q) (hwy.word q)) (fun q t hq ht => ?_)
        have e1 := HP1.out; have e2 := HP2.out
        rw [HX.out] at hq
        rw [wxor_bits, tx q t ht, ty q t ht]
        by_cases c : q < k
        · rw [if_pos (by simpa using c)]
          by_cases c1 : 64 * q + t < n1
          · rw [decide_eq_true c1]
            cases decide (64 * q + t < n2) <;> cases f1 (64 * q + t) <;> cases f2 (64 * q + t) <;> simp <;> omega
          · rw [decide_eq_false c1]
            by_cases c2 : 64 * q + t < n2
            · rw [decide_eq_true c2]; cases f1 (64 * q + t) <;> cases f2 (64 * q + t) <;> simp <;> omega
            · rw [decide_eq_false c2]; cases f1 (64 * q + t) <;> cases f2 (64 * q + t) <;> rfl
        · rw [if_neg (by simpa using c)]
          have c2 : ¬ 64 * q + t < n2 := by omega
          have c1 : decide (64 * q + t < n2) = false := decide_eq_false c2
          rw [c1]
          cases decide (64 * q + t < n1) <;> cases f1 (64 * q + t) <;> simp
      · intro x hx
        simp at hx
        subst hx
        rcases HG.out with h | h
        · left; simp [h]
        · right; have := hsz.out; omega
set_option maxHeartbeats 2000000 in
theorem inPlaceSymmetricDifferenceC_c (b1 g1 n1 b2 g2 n2 : Nat) (f1 f2 : Nat → Bool) (w : World) (h1 : BSet w b1 g1 n1 f1) (h2 : BSet w b2 g2 n2 f2) (hn1 : n1 ≤ 20000) (hn2 : n2 ≤ 20000) (ha : b1 ≠ b2 ∧ b1 ≠ g2 ∧ g1 ≠ b2 ∧ g1 ≠ g2) (hle : n1 < n2) (hq : (n1 + 63) / 64 < (n2 + 63) / 64) (hz : (n1 + 63) / 64 = 0) :
    Calls Try.prog 52 #[.pointer (some ⟨b1, 0, none⟩), .pointer (some ⟨b2, 0, none⟩)] w fun e w' => e = .returned (.tuple #[]) ∧ ∃ g', BSet w' b1 g' (n2) (fun j => (decide (j < n1) && f1 j) ^^ (decide (j < n2) && f2 j)) ∧ (g' = g1 ∨ w.heap.size ≤ g') ∧ Kept [b1, g1] w w' := by
  obtain ⟨ha1, ha2, ha3, ha4⟩ := ha
  obtain ⟨p1, hp1⟩ : ∃ p, (n1 + 63) / 64 = p := ⟨_, rfl⟩
  obtain ⟨p2, hp2⟩ : ∃ p, (n2 + 63) / 64 = p := ⟨_, rfl⟩
  have HP1 := Lib.hid hp1; have HP2 := Lib.hid hp2; clear hp1 hp2
  have hq1 : p1 ≤ 313 := by have := HP1.out; omega
  have hq2 : p2 ≤ 313 := by have := HP2.out; omega
  have hl2 := h2.lt
  have hl1 := h1.lt
  have le1 : (p1 : Int) < (p2 : Int) := by have := HP1.out; have := HP2.out; omega
  have le2 : decide (p1 < p2) = true := decide_eq_true (by omega)
  have c10 : w.cell? ⟨b1, 0, none⟩ = some (.int .u64 n1) := by obtain ⟨_, cap, ws, hh, _, _⟩ := h1; exact hh.c0
  have c20 : w.cell? ⟨b2, 0, none⟩ = some (.int .u64 n2) := by obtain ⟨_, cap, ws, hh, _, _⟩ := h2; exact hh.c0
  have y0 : (0 : Int) < (n2 : Int) := by omega
  have y0n : 0 < n2 := by omega
  have y1 : IntKind.u64.wrap ((n2 : Int) - 1) = (n2 : Int) - 1 := by rw [IntKind.wrap_u64]; omega
  have y2 : (n1 : Int) ≤ (n2 : Int) - 1 := by omega
  obtain rfl : p1 = 0 := by have := HP1.out; omega
  go_enter Try.func52, Try.ntmps52
  go_wp2_with (go_at_call 75; refine (panicIfNull_c _ _).mono ?_; rintro e w' ⟨rfl, rfl⟩)
  refine (wordCount_c b2 g2 n2 f2 _ h2 (by omega)).mono ?_
  rintro e w' ⟨rfl, rfl⟩
  rw [HP2.out]
  go_wp2_with fail
  refine (wordCount_c b1 g1 n1 f1 _ h1 (by omega)).mono ?_
  rintro e w' ⟨rfl, rfl⟩
  rw [HP1.out]
  go_wp2_with fail
  refine (wordCount_c b1 g1 n1 f1 _ h1 (by omega)).mono ?_
  rintro e w' ⟨rfl, rfl⟩
  rw [HP1.out]
  go_wp2_with fail
  go_quiet (fail)
  have y3 : (n2 : Int) - 1 = ((n2 - 1 : Nat) : Int) := by omega
  have Y3 := Lib.hid y3; clear y3
  have c20 : (w.drewN nq).cell? ⟨b2, 0, none⟩ = some (.int .u64 n2) := c20
  have hx0 : BSet (w.drewN nq) b1 g1 n1 f1 := h1
  have hy0 : BSet (w.drewN nq) b2 g2 n2 f2 := h2
  have kq : Kept [b1, g1] w (w.drewN nq) := (Kept.refl _ _).drewN nq
  have hsz : w.heap.size = (w.drewN nq).heap.size := rfl
  have hsz := Lib.hid hsz
  generalize w.drewN nq = Wq at *
  go_wp2_with fail
  rw [Y3.out]
  refine (extendSet_c b1 g1 n1 (n2 - 1) f1 _ hx0 (by omega) (by omega)).mono ?_
  rintro e w1 ⟨rfl, g', hx, hg', k1⟩
  have hy := hy0.kept k1 (by simp; omega) (by simp; omega)
  have y4 : n2 - 1 + 1 = n2 := by omega
  rw [y4] at hx
  clear y4
  have hg2 : g' ≠ g2 ∧ g' ≠ b2 := by have := hsz.out; rcases hg' with h | h <;> omega
  obtain ⟨hg2a, hg2b⟩ := hg2
  have HG := Lib.hid hg'; clear hg'
  have kq := kq.trans k1 (fun x hx => .inl hx)
  clear c10 c20 hx0 hy0 h1 h2 k1 y2
  obtain ⟨hnex, capx, xs, hhx, hrx, hwx⟩ := hx
  obtain ⟨hney, capy, ys, hhy, hry, hwy⟩ := hy
  have hlx := hwx.length
  have hly := hwy.length
  have hcx := hrx.le
  have hcy := hry.le
  rw [HP2.out] at hlx
  rw [HP2.out] at hly
  rw [hlx] at hhx hcx
  rw [hly] at hhy hcy
  have HX := Lib.hid hlx; have HY := Lib.hid hly
  clear hlx hly
  have tx := hwx.testAt
  have ty := hwy.testAt
  have c1 := hhx.c1
  have c2 := hhy.c1
  go_wp2_with fail
  have hst0 : Kept [g'] w1 w1 ∧ URow w1 g' (part (fun q => decide (q < 0)) (fun q => ys.getD q 0) xs) capx := ⟨Kept.refl _ _, by rw [part_none _ _ _ (fun q _ => by simp)]; exact hrx⟩
  go_loopw [8] (fun v wr => ∃ k2 : Nat, 0 ≤ k2 ∧ k2 ≤ p2 ∧ v = .int .i64 k2 ∧ Kept [g'] w1 wr ∧ URow wr g' (part (fun q => decide (q < k2)) (fun q => ys.getD q 0) xs) capx) (fun v _ => p2 - (intOf v).toNat)
  case atStart => exact ⟨0, Nat.le_refl _, by omega, rfl, hst0⟩
  case round =>
    obtain ⟨k2, hka, hkb, rfl, r1, r3⟩ := hrel
    have hh1 := hhx.kept r1 (by simp [hnex])
    have hh2 := hhy.kept r1 (by simp; exact Ne.symm hg2b)
    have c1 := hh1.c1
    have c2 := hh2.c1
    by_cases hkm : k2 < p2
    · have cy := (hry.kept r1 (by simp; exact Ne.symm hg2a)).cell k2 (by rw [HY.out]; omega)
      have hf := r3.free k2
      obtain ⟨u, hu⟩ := r3.any k2 (by omega)
      have R := r3.set k2 (ys.getD k2 0)
      rw [part_set (p' := fun q => decide (q < k2 + 1)) (g' := fun q => ys.getD q 0) (hx := fun _ => ⟨by simp, rfl⟩) (hp := fun q _ hq => ⟨by simp; omega, fun _ => rfl⟩)] at R
      have q1' := r1.drew.setCell (p := ⟨g', k2, none⟩) (by left; simp) (.int .u64 ((ys.getD k2 0 : Nat) : Int))
      have i0 : (0 : Int) ≤ (k2 : Int) := by omega
      have i2 : (k2 : Int) < (p2 : Int) := by omega
      generalize ys.getD k2 0 = Y at *
      go_wp2_with fail
      go_region
      all_goals
        go_wp2
        go_roundw
        case rel => exact ⟨k2 + 1, by omega, by omega, by go_num, q1', R⟩
        case measure => simp [intOf]; omega
    · have hkn : k2 = p2 := by omega
      subst hkn
      go_wp2_with fail
      go_end0
      refine ⟨rfl, g', ⟨hnex, capx, _, ?_, r3, ?_⟩, HG.out.imp id (fun h => by have := hsz.out; omega), kq.trans r1 ?_⟩
      · rw [part_length, HX.out]; exact hh1
      · refine part_ok _ _ _ _ hwx.length hwx.lt (fun q _ _ => hwy.word q) (fun q t hq ht => ?_)
        have e1 := HP1.out; have e2 := HP2.out
        rw [HX.out] at hq
        rw [if_pos (by simpa using hq)]
        rw [ty q t ht, decide_eq_false (show ¬ 64 * q + t < n1 by omega)]
        cases decide (64 * q + t < n2) <;> cases f2 (64 * q + t) <;> rfl
      · intro x hx
        simp at hx
        subst hx
        rcases HG.out with h | h
        · left; simp [h]
        · right; have := hsz.out; omega
set_option maxHeartbeats 2000000 in
theorem inPlaceSymmetricDifferenceD_c (b1 g1 n1 b2 g2 n2 : Nat) (f1 f2 : Nat → Bool) (w : World) (h1 : BSet w b1 g1 n1 f1) (h2 : BSet w b2 g2 n2 f2) (hn1 : n1 ≤ 20000) (hn2 : n2 ≤ 20000) (ha : b1 ≠ b2 ∧ b1 ≠ g2 ∧ g1 ≠ b2 ∧ g1 ≠ g2) (hle : n1 < n2) (hq : (n1 + 63) / 64 < (n2 + 63) / 64) (hz : (n1 + 63) / 64 ≠ 0) :
    Calls Try.prog 52 #[.pointer (some ⟨b1, 0, none⟩), .pointer (some ⟨b2, 0, none⟩)] w fun e w' => e = .returned (.tuple #[]) ∧ ∃ g', BSet w' b1 g' (n2) (fun j => (decide (j < n1) && f1 j) ^^ (decide (j < n2) && f2 j)) ∧ (g' = g1 ∨ w.heap.size ≤ g') ∧ Kept [b1, g1] w w' := by
  obtain ⟨ha1, ha2, ha3, ha4⟩ := ha
  obtain ⟨p1, hp1⟩ : ∃ p, (n1 + 63) / 64 = p := ⟨_, rfl⟩
  obtain ⟨p2, hp2⟩ : ∃ p, (n2 + 63) / 64 = p := ⟨_, rfl⟩
  have HP1 := Lib.hid hp1; have HP2 := Lib.hid hp2; clear hp1 hp2
  have hq1 : p1 ≤ 313 := by have := HP1.out; omega
  have hq2 : p2 ≤ 313 := by have := HP2.out; omega
  have hl2 := h2.lt
  have hl1 := h1.lt
  have le1 : (p1 : Int) < (p2 : Int) := by have := HP1.out; have := HP2.out; omega
  have le2 : decide (p1 < p2) = true := decide_eq_true (by omega)
  have c10 : w.cell? ⟨b1, 0, none⟩ = some (.int .u64 n1) := by obtain ⟨_, cap, ws, hh, _, _⟩ := h1; exact hh.c0
  have c20 : w.cell? ⟨b2, 0, none⟩ = some (.int .u64 n2) := by obtain ⟨_, cap, ws, hh, _, _⟩ := h2; exact hh.c0
  have y0 : (0 : Int) < (n2 : Int) := by omega
  have y0n : 0 < n2 := by omega
  have y1 : IntKind.u64.wrap ((n2 : Int) - 1) = (n2 : Int) - 1 := by rw [IntKind.wrap_u64]; omega
  have y2 : (n1 : Int) ≤ (n2 : Int) - 1 := by omega
  have hzl : 0 < p1 := by have := HP1.out; have := HP2.out; omega
  have z0 : (0 : Int) ≤ (p1 : Int) - 1 := by omega
  have z1 : (p1 : Int) - 1 < (p1 : Int) := by omega
  have z2 : (p1 : Int) - 1 < (p2 : Int) := by omega
  have z3 : ((p1 : Int) - 1).toNat = p1 - 1 := by omega
  have z4 : IntKind.i64.wrap ((p1 : Int) - 1) = (p1 : Int) - 1 := by rw [IntKind.wrap_i64]; omega
  have z5 : decide (p1 = 0) = false := by simp; omega
  have z6 : (0 : Int) < (p1 : Int) := by omega
  go_enter Try.func52, Try.ntmps52
  go_wp2_with (go_at_call 75; refine (panicIfNull_c _ _).mono ?_; rintro e w' ⟨rfl, rfl⟩)
  refine (wordCount_c b2 g2 n2 f2 _ h2 (by omega)).mono ?_
  rintro e w' ⟨rfl, rfl⟩
  rw [HP2.out]
  go_wp2_with fail
  refine (wordCount_c b1 g1 n1 f1 _ h1 (by omega)).mono ?_
  rintro e w' ⟨rfl, rfl⟩
  rw [HP1.out]
  go_wp2_with fail
  refine (wordCount_c b1 g1 n1 f1 _ h1 (by omega)).mono ?_
  rintro e w' ⟨rfl, rfl⟩
  rw [HP1.out]
  go_wp2_with fail
  go_quiet (fail)
  have y3 : (n2 : Int) - 1 = ((n2 - 1 : Nat) : Int) := by omega
  have Y3 := Lib.hid y3; clear y3
  have c20 : (w.drewN nq).cell? ⟨b2, 0, none⟩ = some (.int .u64 n2) := c20
  have hx0 : BSet (w.drewN nq) b1 g1 n1 f1 := h1
  have hy0 : BSet (w.drewN nq) b2 g2 n2 f2 := h2
  have kq : Kept [b1, g1] w (w.drewN nq) := (Kept.refl _ _).drewN nq
  have hsz : w.heap.size = (w.drewN nq).heap.size := rfl
  have hsz := Lib.hid hsz
  generalize w.drewN nq = Wq at *
  go_wp2_with fail
  rw [Y3.out]
  refine (extendSet_c b1 g1 n1 (n2 - 1) f1 _ hx0 (by omega) (by omega)).mono ?_
  rintro e w1 ⟨rfl, g', hx, hg', k1⟩
  have hy := hy0.kept k1 (by simp; omega) (by simp; omega)
  have y4 : n2 - 1 + 1 = n2 := by omega
  rw [y4] at hx
  clear y4
  have hg2 : g' ≠ g2 ∧ g' ≠ b2 := by have := hsz.out; rcases hg' with h | h <;> omega
  obtain ⟨hg2a, hg2b⟩ := hg2
  have HG := Lib.hid hg'; clear hg'
  have kq := kq.trans k1 (fun x hx => .inl hx)
  clear c10 c20 hx0 hy0 h1 h2 k1 y2
  obtain ⟨hnex, capx, xs, hhx, hrx, hwx⟩ := hx
  obtain ⟨hney, capy, ys, hhy, hry, hwy⟩ := hy
  have hlx := hwx.length
  have hly := hwy.length
  have hcx := hrx.le
  have hcy := hry.le
  rw [HP2.out] at hlx
  rw [HP2.out] at hly
  rw [hlx] at hhx hcx
  rw [hly] at hhy hcy
  have HX := Lib.hid hlx; have HY := Lib.hid hly
  clear hlx hly
  have tx := hwx.testAt
  have ty := hwy.testAt
  have c1 := hhx.c1
  have c2 := hhy.c1
  have ex := hrx.cell (p1 - 1) (by rw [HX.out]; omega)
  have ey := hry.cell (p1 - 1) (by rw [HY.out]; omega)
  go_wp2_with fail
  go_quiet (fail)
  go_wp2_with fail
  have hhx : Hdr (w1.drewN nq) b1 n2 g' p2 capx := hhx
  have hrx : URow (w1.drewN nq) g' xs capx := hrx
  have hry : URow (w1.drewN nq) g2 ys capy := hry
  have hhy : Hdr (w1.drewN nq) b2 n2 g2 p2 capy := hhy
  have kq : Kept [b1, g1] w (w1.drewN nq) := kq.drewN nq
  clear c1 c2 ex ey
  generalize w1.drewN nq = W0 at *
  have hst : Kept [g'] W0 W0 ∧ URow W0 g' (part (fun q => decide (q < 0)) (fun q => (fun a b => a ^^^ b) (xs.getD q 0) (ys.getD q 0)) xs) capx := ⟨Kept.refl _ _, by rw [part_none _ _ _ (fun q _ => by simp)]; exact hrx⟩
  go_loopw [7] (fun v wr => ∃ k : Nat, k ≤ p1 ∧ v = .int .i64 k ∧ Kept [g'] W0 wr ∧ URow wr g' (part (fun q => decide (q < k)) (fun q => (fun a b => a ^^^ b) (xs.getD q 0) (ys.getD q 0)) xs) capx) (fun v _ => p1 - (intOf v).toNat)
  case atStart => exact ⟨0, Nat.zero_le _, rfl, hst⟩
  case round =>
    obtain ⟨k, hk, rfl, q1, q3⟩ := hrel
    by_cases hkm : k < p1
    · have cx := q3.cell k (by rw [part_length, HX.out]; omega)
      rw [part_getD _ _ _ _ (by rw [HX.out]; omega), if_neg (by simp)] at cx
      have cy := (hry.kept q1 (by simp; omega)).cell k (by rw [HY.out]; omega)
      have hf := q3.free k
      have hop := bits_xor_nat (xs.getD k 0) (ys.getD k 0) (hwx.word k) (hwy.word k)
      have R := q3.set k ((fun a b => a ^^^ b) (xs.getD k 0) (ys.getD k 0))
      rw [part_set (p' := fun q => decide (q < k + 1)) (g' := fun q => (fun a b => a ^^^ b) (xs.getD q 0) (ys.getD q 0)) (hx := fun _ => ⟨by simp, rfl⟩) (hp := fun q _ hq => ⟨by simp; omega, fun _ => rfl⟩)] at R
      have q1' := q1.drew.setCell (p := ⟨g', k, none⟩) (by left; simp) (.int .u64 (((fun a b => a ^^^ b) (xs.getD k 0) (ys.getD k 0) : Nat) : Int))
      have i0 : (0 : Int) ≤ (k : Int) := by omega
      have i1 : (k : Int) < (p2 : Int) := by omega
      have i2 : (k : Int) < (p2 : Int) := by omega
      generalize xs.getD k 0 = X at *
      generalize ys.getD k 0 = Y at *
      have HO := Lib.hid hop; clear hop
      go_wp2_with fail
      go_region
      all_goals
        go_wp2
        rw [HO.out]
        go_roundw
        case rel => exact ⟨k + 1, by omega, by go_num, q1', R⟩
        case measure => simp [intOf]; omega
    · have hkn : k = p1 := by omega
      subst hkn
      have hh1 := hhx.kept q1 (by simp [hnex])
      have hh2 := hhy.kept q1 (by simp; exact Ne.symm hg2b)
      have c1 := hh1.c1
      have c2 := hh2.c1
      go_wp2_with fail
      have hst2 : Kept [g'] W0 wr ∧ URow wr g' (part (fun q => decide (q < k)) (fun q => if q < k then (fun a b => a ^^^ b) (xs.getD q 0) (ys.getD q 0) else ys.getD q 0) xs) capx := ⟨q1, by
        have e : part (fun q => decide (q < k)) (fun q => (fun a b => a ^^^ b) (xs.getD q 0) (ys.getD q 0)) xs = part (fun q => decide (q < k)) (fun q => if q < k then (fun a b => a ^^^ b) (xs.getD q 0) (ys.getD q 0) else ys.getD q 0) xs := by
          unfold part
          refine List.map_congr_left fun q _ => ?_
          by_cases c : q < k
          · simp [c]
          · simp [c]
        rw [← e]; exact q3⟩
      go_loopw [8] (fun v wr => ∃ k2 : Nat, k ≤ k2 ∧ k2 ≤ p2 ∧ v = .int .i64 k2 ∧ Kept [g'] W0 wr ∧ URow wr g' (part (fun q => decide (q < k2)) (fun q => if q < k then (fun a b => a ^^^ b) (xs.getD q 0) (ys.getD q 0) else ys.getD q 0) xs) capx) (fun v _ => p2 - (intOf v).toNat)
      case atStart => exact ⟨k, Nat.le_refl _, by omega, rfl, hst2⟩
      case round =>
        obtain ⟨k2, hka, hkb, rfl, r1, r3⟩ := hrel
        have hh1 := hhx.kept r1 (by simp [hnex])
        have hh2 := hhy.kept r1 (by simp; exact Ne.symm hg2b)
        have c1 := hh1.c1
        have c2 := hh2.c1
        by_cases hkm : k2 < p2
        · have cy := (hry.kept r1 (by simp; exact Ne.symm hg2a)).cell k2 (by rw [HY.out]; omega)
          have hf := r3.free k2
          obtain ⟨u, hu⟩ := r3.any k2 (by omega)
          have R := r3.set k2 (ys.getD k2 0)
          rw [part_set (p' := fun q => decide (q < k2 + 1)) (g' := fun q => if q < k then (fun a b => a ^^^ b) (xs.getD q 0) (ys.getD q 0) else ys.getD q 0) (hx := fun _ => ⟨by simp, if_neg (by omega)⟩) (hp := fun q _ hq => ⟨by simp; omega, fun _ => rfl⟩)] at R
          have q1' := r1.drew.setCell (p := ⟨g', k2, none⟩) (by left; simp) (.int .u64 ((ys.getD k2 0 : Nat) : Int))
          have i0 : (0 : Int) ≤ (k2 : Int) := by omega
          have i2 : (k2 : Int) < (p2 : Int) := by omega
          generalize ys.getD k2 0 = Y at *
          go_wp2_with fail
          go_region
          all_goals
            go_wp2
            go_roundw
            case rel => exact ⟨k2 + 1, by omega, by omega, by go_num, q1', R⟩
            case measure => simp [intOf]; omega
        · have hkn : k2 = p2 := by omega
          subst hkn
          go_wp2_with fail
          go_end0
          refine ⟨rfl, g', ⟨hnex, capx, _, ?_, r3, ?_⟩, HG.out.imp id (fun h => by have := hsz.out; omega), kq.trans r1 ?_⟩
          · rw [part_length, HX.out]; exact hh1
          · refine part_ok _ _ _ _ hwx.length hwx.lt (fun q _ _ => by split; exact wxor_lt _ _ (hwx.word q) (hwy.word q); exact hwy.word q) (fun q t hq ht => ?_)
            have e1 := HP1.out; have e2 := HP2.out
            rw [HX.out] at hq
            rw [if_pos (by simpa using hq)]
            by_cases c : q < k
            · rw [if_pos c, wxor_bits, tx q t ht, ty q t ht]
              by_cases c1 : 64 * q + t < n1
              · rw [decide_eq_true c1]
                cases decide (64 * q + t < n2) <;> cases f1 (64 * q + t) <;> cases f2 (64 * q + t) <;> simp <;> omega
              · rw [decide_eq_false c1]
                by_cases c2 : 64 * q + t < n2
                · rw [decide_eq_true c2]; cases f1 (64 * q + t) <;> cases f2 (64 * q + t) <;> simp
                · rw [decide_eq_false c2]; cases f1 (64 * q + t) <;> cases f2 (64 * q + t) <;> rfl
            · rw [if_neg c, ty q t ht, decide_eq_false (show ¬ 64 * q + t < n1 by omega)]
              cases decide (64 * q + t < n2) <;> cases f2 (64 * q + t) <;> rfl
          · intro x hx
            simp at hx
            subst hx
            rcases HG.out with h | h
            · left; simp [h]
            · right; have := hsz.out; omega
theorem inPlaceSymmetricDifference_c (b1 g1 n1 b2 g2 n2 : Nat) (f1 f2 : Nat → Bool) (w : World) (h1 : BSet w b1 g1 n1 f1) (h2 : BSet w b2 g2 n2 f2) (hn1 : n1 ≤ 20000) (hn2 : n2 ≤ 20000) (ha : b1 ≠ b2 ∧ b1 ≠ g2 ∧ g1 ≠ b2 ∧ g1 ≠ g2) :
    Calls Try.prog 52 #[.pointer (some ⟨b1, 0, none⟩), .pointer (some ⟨b2, 0, none⟩)] w fun e w' => e = .returned (.tuple #[]) ∧ ∃ g', BSet w' b1 g' (max n1 n2) (fun j => (decide (j < n1) && f1 j) ^^ (decide (j < n2) && f2 j)) ∧ (g' = g1 ∨ w.heap.size ≤ g') ∧ Kept [b1, g1] w w' := by
  by_cases hz : n2 = 0
  · rw [show max n1 n2 = n1 by omega]; exact inPlaceSymmetricDifferenceZ_c b1 g1 n1 b2 g2 n2 f1 f2 w h1 h2 hn1 hn2 ha hz
  · by_cases hle : n2 ≤ n1
    · rw [show max n1 n2 = n1 by omega]; exact inPlaceSymmetricDifferenceA_c b1 g1 n1 b2 g2 n2 f1 f2 w h1 h2 hn1 hn2 ha hle (by omega)
    · rw [show max n1 n2 = n2 by omega]
      by_cases hq : (n1 + 63) / 64 < (n2 + 63) / 64
      · by_cases hp : (n1 + 63) / 64 = 0
        · exact inPlaceSymmetricDifferenceC_c b1 g1 n1 b2 g2 n2 f1 f2 w h1 h2 hn1 hn2 ha (by omega) hq hp
        · exact inPlaceSymmetricDifferenceD_c b1 g1 n1 b2 g2 n2 f1 f2 w h1 h2 hn1 hn2 ha (by omega) hq hp
      · exact inPlaceSymmetricDifferenceB_c b1 g1 n1 b2 g2 n2 f1 f2 w h1 h2 hn1 hn2 ha (by omega) hq

end Go.Proofs.Ytbobddbndlckhaa

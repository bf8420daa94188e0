/-
  The contract of InPlaceDifference; for sets of at most 20000 bits.
-/
import Derived.Test.YtbobddbndlckhaaTwo
import Derived.Test.YtbobddbndlckhaaMix
import Derived.Test.YtbobddbndlckhaaPart
namespace Go.Proofs.Ytbobddbndlckhaa
set_option linter.unusedSimpArgs false
set_option linter.unusedVariables false
open Go.RowKit

set_option maxHeartbeats 2000000 in
theorem inPlaceDifferenceLT_c (b1 g1 n1 b2 g2 n2 : Nat) (f1 f2 : Nat → Bool) (w : World) (h1 : BSet w b1 g1 n1 f1) (h2 : BSet w b2 g2 n2 f2) (hn1 : n1 ≤ 20000) (hn2 : n2 ≤ 20000) (ha : b1 ≠ b2 ∧ b1 ≠ g2 ∧ g1 ≠ b2 ∧ g1 ≠ g2) (hle : (n1 + 63) / 64 < (n2 + 63) / 64) :
    Calls Try.prog 50 #[.pointer (some ⟨b1, 0, none⟩), .pointer (some ⟨b2, 0, none⟩)] w fun e w' => e = .returned (.tuple #[]) ∧ ∃ g', BSet w' b1 g' (n1) (fun j => (decide (j < n1) && f1 j) && !(decide (j < n2) && f2 j)) ∧ (g' = g1 ∨ w.heap.size ≤ g') ∧ Kept [b1, g1] w w' := by
  obtain ⟨ha1, ha2, ha3, ha4⟩ := ha
  obtain ⟨p1, hp1⟩ : ∃ p, (n1 + 63) / 64 = p := ⟨_, rfl⟩
  obtain ⟨p2, hp2⟩ : ∃ p, (n2 + 63) / 64 = p := ⟨_, rfl⟩
  have HP1 := Lib.hid hp1; have HP2 := Lib.hid hp2; clear hp1 hp2
  have hq1 : p1 ≤ 313 := by have := HP1.out; omega
  have hq2 : p2 ≤ 313 := by have := HP2.out; omega
  have hl2 := h2.lt
  have hl1 := h1.lt
  have le1 : (p1 : Int) < (p2 : Int) := by have := HP1.out; have := HP2.out; omega
  have le2 : decide (p1 < p2) = true := decide_eq_true (by omega)
  clear hle
  by_cases hz : (p1 : Int) ≤ 0
  · obtain rfl : p1 = 0 := by omega
    go_enter Try.func50, Try.ntmps50
    go_wp2_with (go_at_call 75; refine (panicIfNull_c _ _).mono ?_; rintro e w' ⟨rfl, rfl⟩)
    refine (wordCount_c b2 g2 n2 f2 _ h2 (by omega)).mono ?_
    rintro e w' ⟨rfl, rfl⟩
    rw [HP2.out]
    go_wp2_with fail
    refine (wordCount_c b1 g1 n1 f1 _ h1 (by omega)).mono ?_
    rintro e w' ⟨rfl, rfl⟩
    rw [HP1.out]
    go_wp2_with fail
    refine (wordCount_c b1 g1 n1 f1 _ h1 (by omega)).mono ?_
    rintro e w' ⟨rfl, rfl⟩
    rw [HP1.out]
    go_wp2_with fail
    refine bodyPost_ret (results_none (h := rfl) ..) rfl ?_
    refine ⟨rfl, g1, h1.congr fun j hj => ?_, .inl rfl, Kept.refl _ _⟩
    have e1 := HP1.out; have e2 := HP2.out
    rw [decide_eq_true hj, show decide (j < n2) = false from absurd hj (by omega)]
    simp
  · have z0 : (0 : Int) ≤ (p1 : Int) - 1 := by omega
    have z1 : (p1 : Int) - 1 < (p1 : Int) := by omega
    have z2 : (p1 : Int) - 1 < (p2 : Int) := by omega
    have z3 : ((p1 : Int) - 1).toNat = p1 - 1 := by omega
    have z4 : IntKind.i64.wrap ((p1 : Int) - 1) = (p1 : Int) - 1 := by rw [IntKind.wrap_i64]; omega
    have z5 : decide (p1 = 0) = false := by simp; omega
    have z6 : (0 : Int) < (p1 : Int) := by omega
    have h1c := h1
    have h2c := h2
    obtain ⟨hnex, capx, xs, hhx, hrx, hwx⟩ := h1c
    obtain ⟨hney, capy, ys, hhy, hry, hwy⟩ := h2c
    have hlx := hwx.length
    have hly := hwy.length
    have hcx := hrx.le
    have hcy := hry.le
    rw [HP1.out] at hlx
    rw [HP2.out] at hly
    rw [hlx] at hhx hcx
    rw [hly] at hhy hcy
    have HX := Lib.hid hlx; have HY := Lib.hid hly
    clear hlx hly
    have tx := hwx.testAt
    have ty := hwy.testAt
    have c1 := hhx.c1
    have c2 := hhy.c1
    have ex := hrx.cell (p1 - 1) (by rw [HX.out]; omega)
    have ey := hry.cell (p1 - 1) (by rw [HY.out]; omega)
    go_enter Try.func50, Try.ntmps50
    go_wp2_with (go_at_call 75; refine (panicIfNull_c _ _).mono ?_; rintro e w' ⟨rfl, rfl⟩)
    refine (wordCount_c b2 g2 n2 f2 _ h2 (by omega)).mono ?_
    rintro e w' ⟨rfl, rfl⟩
    rw [HP2.out]
    go_wp2_with fail
    refine (wordCount_c b1 g1 n1 f1 _ h1 (by omega)).mono ?_
    rintro e w' ⟨rfl, rfl⟩
    rw [HP1.out]
    go_wp2_with fail
    refine (wordCount_c b1 g1 n1 f1 _ h1 (by omega)).mono ?_
    rintro e w' ⟨rfl, rfl⟩
    rw [HP1.out]
    go_wp2_with fail
    go_quiet (fail)
    go_wp2_with fail
    have hhx : Hdr (w.drewN nq) b1 n1 g1 p1 capx := hhx
    have hrx : URow (w.drewN nq) g1 xs capx := hrx
    have hry : URow (w.drewN nq) g2 ys capy := hry
    have kq : Kept [b1, g1] w (w.drewN nq) := (Kept.refl _ _).drewN nq
    clear c1 c2 ex ey h1 h2
    generalize w.drewN nq = W0 at *
    have hst : Kept [g1] W0 W0 ∧ URow W0 g1 (part (fun q => decide (q < 0)) (fun q => andNot (xs.getD q 0) (ys.getD q 0)) xs) capx := ⟨Kept.refl _ _, by rw [part_none _ _ _ (fun q _ => by simp)]; exact hrx⟩
    go_loopw [7] (fun v wr => ∃ k : Nat, k ≤ p1 ∧ v = .int .i64 k ∧ Kept [g1] W0 wr ∧ URow wr g1 (part (fun q => decide (q < k)) (fun q => andNot (xs.getD q 0) (ys.getD q 0)) xs) capx) (fun v _ => p1 - (intOf v).toNat)
    case atStart => exact ⟨0, Nat.zero_le _, rfl, hst⟩
    case round =>
      obtain ⟨k, hk, rfl, q1, q3⟩ := hrel
      by_cases hkm : k < p1
      · have cx := q3.cell k (by rw [part_length, HX.out]; omega)
        rw [part_getD _ _ _ _ (by rw [HX.out]; omega), if_neg (by simp)] at cx
        have cy := (hry.kept q1 (by simp; omega)).cell k (by rw [HY.out]; omega)
        have hf := q3.free k
        have hop := bits_andNot_nat (xs.getD k 0) (ys.getD k 0) (hwx.word k) (hwy.word k)
        have R := q3.set k (andNot (xs.getD k 0) (ys.getD k 0))
        rw [part_set (p' := fun q => decide (q < k + 1)) (g' := fun q => andNot (xs.getD q 0) (ys.getD q 0)) (hx := fun _ => ⟨by simp, rfl⟩) (hp := fun q _ hq => ⟨by simp; omega, fun _ => rfl⟩)] at R
        have q1' := q1.drew.setCell (p := ⟨g1, k, none⟩) (by left; simp) (.int .u64 ((andNot (xs.getD k 0) (ys.getD k 0) : Nat) : Int))
        have i0 : (0 : Int) ≤ (k : Int) := by omega
        have i1 : (k : Int) < (p1 : Int) := by omega
        have i2 : (k : Int) < (p2 : Int) := by omega
        generalize xs.getD k 0 = X at *
        generalize ys.getD k 0 = Y at *
        have HO := Lib.hid hop; clear hop
        go_wp2_with fail
        go_region
        all_goals
          go_wp2
          rw [HO.out]
          go_roundw
          case rel => exact ⟨k + 1, by omega, by go_num, q1', R⟩
          case measure => simp [intOf]; omega
      · have hkn : k = p1 := by omega
        subst hkn
        go_wp2
        go_end0
        refine ⟨rfl, g1, ⟨hnex, capx, _, ?_, q3, ?_⟩, .inl rfl, kq.trans q1 (fun x hx => by simp at hx; subst hx; left; simp)⟩
        · rw [part_length, HX.out]; exact hhx.kept q1 (by simp [hnex])
        · refine part_ok _ _ _ _ hwx.length hwx.lt (fun q _ _ => andNot_lt _ _ (hwx.word q)) (fun q t hq ht => ?_)
          have e1 := HP1.out; have e2 := HP2.out
          rw [HX.out] at hq
          rw [testBit_andNot, tx q t ht, ty q t ht]
          by_cases c : q < k
          · rw [if_pos (by simpa using c)]
            cases decide (64 * q + t < n1) <;> cases decide (64 * q + t < n2) <;> cases f1 (64 * q + t) <;> cases f2 (64 * q + t) <;> rfl
          · rw [if_neg (by simpa using c)]
            omega
set_option maxHeartbeats 2000000 in
theorem inPlaceDifferenceGE_c (b1 g1 n1 b2 g2 n2 : Nat) (f1 f2 : Nat → Bool) (w : World) (h1 : BSet w b1 g1 n1 f1) (h2 : BSet w b2 g2 n2 f2) (hn1 : n1 ≤ 20000) (hn2 : n2 ≤ 20000) (ha : b1 ≠ b2 ∧ b1 ≠ g2 ∧ g1 ≠ b2 ∧ g1 ≠ g2) (hle : ¬ (n1 + 63) / 64 < (n2 + 63) / 64) :
    Calls Try.prog 50 #[.pointer (some ⟨b1, 0, none⟩), .pointer (some ⟨b2, 0, none⟩)] w fun e w' => e = .returned (.tuple #[]) ∧ ∃ g', BSet w' b1 g' (n1) (fun j => (decide (j < n1) && f1 j) && !(decide (j < n2) && f2 j)) ∧ (g' = g1 ∨ w.heap.size ≤ g') ∧ Kept [b1, g1] w w' := by
  obtain ⟨ha1, ha2, ha3, ha4⟩ := ha
  obtain ⟨p1, hp1⟩ : ∃ p, (n1 + 63) / 64 = p := ⟨_, rfl⟩
  obtain ⟨p2, hp2⟩ : ∃ p, (n2 + 63) / 64 = p := ⟨_, rfl⟩
  have HP1 := Lib.hid hp1; have HP2 := Lib.hid hp2; clear hp1 hp2
  have hq1 : p1 ≤ 313 := by have := HP1.out; omega
  have hq2 : p2 ≤ 313 := by have := HP2.out; omega
  have hl2 := h2.lt
  have hl1 := h1.lt
  have le1 : ¬ (p1 : Int) < (p2 : Int) := by have := HP1.out; have := HP2.out; omega
  have le2 : decide (p1 < p2) = false := decide_eq_false (by omega)
  clear hle
  by_cases hz : (p2 : Int) ≤ 0
  · obtain rfl : p2 = 0 := by omega
    go_enter Try.func50, Try.ntmps50
    go_wp2_with (go_at_call 75; refine (panicIfNull_c _ _).mono ?_; rintro e w' ⟨rfl, rfl⟩)
    refine (wordCount_c b2 g2 n2 f2 _ h2 (by omega)).mono ?_
    rintro e w' ⟨rfl, rfl⟩
    rw [HP2.out]
    go_wp2_with fail
    refine (wordCount_c b1 g1 n1 f1 _ h1 (by omega)).mono ?_
    rintro e w' ⟨rfl, rfl⟩
    rw [HP1.out]
    go_wp2_with fail
    refine bodyPost_ret (results_none (h := rfl) ..) rfl ?_
    refine ⟨rfl, g1, h1.congr fun j hj => ?_, .inl rfl, Kept.refl _ _⟩
    have e1 := HP1.out; have e2 := HP2.out
    rw [decide_eq_true hj, decide_eq_false (show ¬ j < n2 by omega)]
    simp
  · have z0 : (0 : Int) ≤ (p2 : Int) - 1 := by omega
    have z1 : (p2 : Int) - 1 < (p1 : Int) := by omega
    have z2 : (p2 : Int) - 1 < (p2 : Int) := by omega
    have z3 : ((p2 : Int) - 1).toNat = p2 - 1 := by omega
    have z4 : IntKind.i64.wrap ((p2 : Int) - 1) = (p2 : Int) - 1 := by rw [IntKind.wrap_i64]; omega
    have z5 : decide (p2 = 0) = false := by simp; omega
    have z6 : (0 : Int) < (p2 : Int) := by omega
    have h1c := h1
    have h2c := h2
    obtain ⟨hnex, capx, xs, hhx, hrx, hwx⟩ := h1c
    obtain ⟨hney, capy, ys, hhy, hry, hwy⟩ := h2c
    have hlx := hwx.length
    have hly := hwy.length
    have hcx := hrx.le
    have hcy := hry.le
    rw [HP1.out] at hlx
    rw [HP2.out] at hly
    rw [hlx] at hhx hcx
    rw [hly] at hhy hcy
    have HX := Lib.hid hlx; have HY := Lib.hid hly
    clear hlx hly
    have tx := hwx.testAt
    have ty := hwy.testAt
    have c1 := hhx.c1
    have c2 := hhy.c1
    have ex := hrx.cell (p2 - 1) (by rw [HX.out]; omega)
    have ey := hry.cell (p2 - 1) (by rw [HY.out]; omega)
    go_enter Try.func50, Try.ntmps50
    go_wp2_with (go_at_call 75; refine (panicIfNull_c _ _).mono ?_; rintro e w' ⟨rfl, rfl⟩)
    refine (wordCount_c b2 g2 n2 f2 _ h2 (by omega)).mono ?_
    rintro e w' ⟨rfl, rfl⟩
    rw [HP2.out]
    go_wp2_with fail
    refine (wordCount_c b1 g1 n1 f1 _ h1 (by omega)).mono ?_
    rintro e w' ⟨rfl, rfl⟩
    rw [HP1.out]
    go_wp2_with fail
    go_quiet (fail)
    go_wp2_with fail
    have hhx : Hdr (w.drewN nq) b1 n1 g1 p1 capx := hhx
    have hrx : URow (w.drewN nq) g1 xs capx := hrx
    have hry : URow (w.drewN nq) g2 ys capy := hry
    have kq : Kept [b1, g1] w (w.drewN nq) := (Kept.refl _ _).drewN nq
    clear c1 c2 ex ey h1 h2
    generalize w.drewN nq = W0 at *
    have hst : Kept [g1] W0 W0 ∧ URow W0 g1 (part (fun q => decide (q < 0)) (fun q => andNot (xs.getD q 0) (ys.getD q 0)) xs) capx := ⟨Kept.refl _ _, by rw [part_none _ _ _ (fun q _ => by simp)]; exact hrx⟩
    go_loopw [7] (fun v wr => ∃ k : Nat, k ≤ p2 ∧ v = .int .i64 k ∧ Kept [g1] W0 wr ∧ URow wr g1 (part (fun q => decide (q < k)) (fun q => andNot (xs.getD q 0) (ys.getD q 0)) xs) capx) (fun v _ => p2 - (intOf v).toNat)
    case atStart => exact ⟨0, Nat.zero_le _, rfl, hst⟩
    case round =>
      obtain ⟨k, hk, rfl, q1, q3⟩ := hrel
      by_cases hkm : k < p2
      · have cx := q3.cell k (by rw [part_length, HX.out]; omega)
        rw [part_getD _ _ _ _ (by rw [HX.out]; omega), if_neg (by simp)] at cx
        have cy := (hry.kept q1 (by simp; omega)).cell k (by rw [HY.out]; omega)
        have hf := q3.free k
        have hop := bits_andNot_nat (xs.getD k 0) (ys.getD k 0) (hwx.word k) (hwy.word k)
        have R := q3.set k (andNot (xs.getD k 0) (ys.getD k 0))
        rw [part_set (p' := fun q => decide (q < k + 1)) (g' := fun q => andNot (xs.getD q 0) (ys.getD q 0)) (hx := fun _ => ⟨by simp, rfl⟩) (hp := fun q _ hq => ⟨by simp; omega, fun _ => rfl⟩)] at R
        have q1' := q1.drew.setCell (p := ⟨g1, k, none⟩) (by left; simp) (.int .u64 ((andNot (xs.getD k 0) (ys.getD k 0) : Nat) : Int))
        have i0 : (0 : Int) ≤ (k : Int) := by omega
        have i1 : (k : Int) < (p1 : Int) := by omega
        have i2 : (k : Int) < (p2 : Int) := by omega
        generalize xs.getD k 0 = X at *
        generalize ys.getD k 0 = Y at *
        have HO := Lib.hid hop; clear hop
        go_wp2_with fail
        go_region
        all_goals
          go_wp2
          rw [HO.out]
          go_roundw
          case rel => exact ⟨k + 1, by omega, by go_num, q1', R⟩
          case measure => simp [intOf]; omega
      · have hkn : k = p2 := by omega
        subst hkn
        go_wp2
        go_end0
        refine ⟨rfl, g1, ⟨hnex, capx, _, ?_, q3, ?_⟩, .inl rfl, kq.trans q1 (fun x hx => by simp at hx; subst hx; left; simp)⟩
        · rw [part_length, HX.out]; exact hhx.kept q1 (by simp [hnex])
        · refine part_ok _ _ _ _ hwx.length hwx.lt (fun q _ _ => andNot_lt _ _ (hwx.word q)) (fun q t hq ht => ?_)
          have e1 := HP1.out; have e2 := HP2.out
          rw [HX.out] at hq
          rw [testBit_andNot, tx q t ht, ty q t ht]
          by_cases c : q < k
          · rw [if_pos (by simpa using c)]
            cases decide (64 * q + t < n1) <;> cases decide (64 * q + t < n2) <;> cases f1 (64 * q + t) <;> cases f2 (64 * q + t) <;> rfl
          · rw [if_neg (by simpa using c)]
            rw [decide_eq_false (show ¬ 64 * q + t < n2 by omega)]
            cases decide (64 * q + t < n1) <;> cases f1 (64 * q + t) <;> rfl
theorem inPlaceDifference_c (b1 g1 n1 b2 g2 n2 : Nat) (f1 f2 : Nat → Bool) (w : World) (h1 : BSet w b1 g1 n1 f1) (h2 : BSet w b2 g2 n2 f2) (hn1 : n1 ≤ 20000) (hn2 : n2 ≤ 20000) (ha : b1 ≠ b2 ∧ b1 ≠ g2 ∧ g1 ≠ b2 ∧ g1 ≠ g2) :
    Calls Try.prog 50 #[.pointer (some ⟨b1, 0, none⟩), .pointer (some ⟨b2, 0, none⟩)] w fun e w' => e = .returned (.tuple #[]) ∧ ∃ g', BSet w' b1 g' n1 (fun j => (decide (j < n1) && f1 j) && !(decide (j < n2) && f2 j)) ∧ (g' = g1 ∨ w.heap.size ≤ g') ∧ Kept [b1, g1] w w' := by
  by_cases hle : (n1 + 63) / 64 < (n2 + 63) / 64
  · exact inPlaceDifferenceLT_c b1 g1 n1 b2 g2 n2 f1 f2 w h1 h2 hn1 hn2 ha hle
  · exact inPlaceDifferenceGE_c b1 g1 n1 b2 g2 n2 f1 f2 w h1 h2 hn1 hn2 ha hle

end Go.Proofs.Ytbobddbndlckhaa

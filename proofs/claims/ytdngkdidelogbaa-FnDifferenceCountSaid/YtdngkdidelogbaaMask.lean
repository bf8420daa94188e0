/-
  The contracts of popcntMaskSlice and DifferenceCardinality.
-/
import Derived.Test.YtdngkdidelogbaaCardB
namespace Go.Proofs.Ytdngkdidelogbaa
set_option linter.unusedSimpArgs false
set_option linter.unusedVariables false
open Go.RowKit

set_option maxRecDepth 20000 in
set_option maxHeartbeats 4000000 in
theorem popcntMask_c (g g2 m m2 cap cap2 : Nat) (xs ys : Nat → Nat) (w : World) (hx : ∀ j, xs j < 2 ^ 64) (hy : ∀ j, ys j < 2 ^ 64) (hm0 : 0 < m) (hm : m ≤ 400) (hm2 : m ≤ m2) (hc : ∀ j, j < m → w.cell? ⟨g, j, none⟩ = some (.int .u64 (xs j : Nat))) (hc2 : ∀ j, j < m → w.cell? ⟨g2, j, none⟩ = some (.int .u64 (ys j : Nat))) :
    Calls Try.prog 79 #[.slice (some ⟨g, 0, none⟩) m cap, .slice (some ⟨g2, 0, none⟩) m2 cap2] w fun e w' => e = .returned (.int .u64 (sumN (fun j => pop (andNot (xs j) (ys j))) m)) ∧ ∃ q, w' = w.drewN q := by
  obtain ⟨h, hh⟩ : ∃ h : Nat → Nat, h = fun j => pop (andNot (xs j) (ys j)) := ⟨_, rfl⟩
  have hb : ∀ j, h j ≤ 64 := fun j => by rw [hh]; exact pop_le _
  have hs := sumN_le h hb
  rw [← hh]
  have hcall : ∀ j wx, Calls Try.prog 81 #[.int .u64 (bits .andNot .u64 (xs j : Nat) (ys j : Nat))] wx fun e w' => e = .returned (.int .i64 (h j : Nat)) ∧ w' = wx := fun j wx => by
    rw [bits_andNot_nat _ _ (hx j) (hy j), hh]
    exact onesCount_c _ (andNot_lt _ _ (hx j)) wx
  have HC := Lib.hid hc; have HC2 := Lib.hid hc2; have HS := Lib.hid hs; have HB := Lib.hid hb; have HCALL := Lib.hid hcall
  have e0 := hc2 (m - 1) (by omega)
  have z0 : (0 : Int) ≤ (m : Int) - 1 := by omega
  have z1 : (m : Int) - 1 < (m2 : Int) := by omega
  have z3 : ((m : Int) - 1).toNat = m - 1 := by omega
  have z4 : IntKind.i64.wrap ((m : Int) - 1) = (m : Int) - 1 := by rw [IntKind.wrap_i64]; omega
  clear hh hc hc2 hx hy hs hb hcall
  have hst : ∃ q, w = w.drewN q := ⟨0, rfl⟩
  go_enter Try.func79, Try.ntmps79
  go_wp2_with fail
  go_loopw [10, 5, 6, 7, 8] (fun i a b c d wr => ∃ k a0 a1 a2 a3 : Nat, k ≤ m ∧ i = .int .i64 k ∧ a = .int .u64 a0 ∧ b = .int .u64 a1 ∧ c = .int .u64 a2 ∧ d = .int .u64 a3 ∧ Hid (a0 + a1 + a2 + a3 = sumN h k) ∧ ∃ q, wr = w.drewN q) (fun i _ _ _ _ _ => m - (intOf i).toNat)
  case atStart => exact ⟨0, 0, 0, 0, 0, Nat.zero_le _, rfl, rfl, rfl, rfl, rfl, rfl, hst⟩
  case round =>
    obtain ⟨k, a0, a1, a2, a3, hk, rfl, rfl, rfl, rfl, rfl, hsum, hwq⟩ := hrel
    have hbd : a0 + a1 + a2 + a3 ≤ 25600 := by have := HS.out k; have := hsum.out; omega
    by_cases hkm : (k : Int) ≤ (m : Int) - 4
    · obtain ⟨WR, hWR⟩ : ∃ WR, wr = WR := ⟨_, rfl⟩
      rw [hWR] at hwq ⊢
      clear hWR
      have c0 : WR.cell? ⟨g, k, none⟩ = some (.int .u64 (xs (k) : Nat)) := by obtain ⟨q, rfl⟩ := hwq; exact HC.out (k) (by omega)
      have d0 : WR.cell? ⟨g2, k, none⟩ = some (.int .u64 (ys (k) : Nat)) := by obtain ⟨q, rfl⟩ := hwq; exact HC2.out (k) (by omega)
      have b0 := HB.out (k)
      have hcall0 := HCALL.out (k)
      have c1 : WR.cell? ⟨g, k + 1, none⟩ = some (.int .u64 (xs (k + 1) : Nat)) := by obtain ⟨q, rfl⟩ := hwq; exact HC.out (k + 1) (by omega)
      have d1 : WR.cell? ⟨g2, k + 1, none⟩ = some (.int .u64 (ys (k + 1) : Nat)) := by obtain ⟨q, rfl⟩ := hwq; exact HC2.out (k + 1) (by omega)
      have b1 := HB.out (k + 1)
      have hcall1 := HCALL.out (k + 1)
      have c2 : WR.cell? ⟨g, k + 2, none⟩ = some (.int .u64 (xs (k + 2) : Nat)) := by obtain ⟨q, rfl⟩ := hwq; exact HC.out (k + 2) (by omega)
      have d2 : WR.cell? ⟨g2, k + 2, none⟩ = some (.int .u64 (ys (k + 2) : Nat)) := by obtain ⟨q, rfl⟩ := hwq; exact HC2.out (k + 2) (by omega)
      have b2 := HB.out (k + 2)
      have hcall2 := HCALL.out (k + 2)
      have c3 : WR.cell? ⟨g, k + 3, none⟩ = some (.int .u64 (xs (k + 3) : Nat)) := by obtain ⟨q, rfl⟩ := hwq; exact HC.out (k + 3) (by omega)
      have d3 : WR.cell? ⟨g2, k + 3, none⟩ = some (.int .u64 (ys (k + 3) : Nat)) := by obtain ⟨q, rfl⟩ := hwq; exact HC2.out (k + 3) (by omega)
      have b3 := HB.out (k + 3)
      have hcall3 := HCALL.out (k + 3)
      have hsum' : Hid ((a0 + h k) + (a1 + h (k + 1)) + (a2 + h (k + 2)) + (a3 + h (k + 3)) = sumN h (k + 4)) := by
        have := hsum.out
        show _ = sumN h k + h k + h (k + 1) + h (k + 2) + h (k + 3)
        omega
      have i0 : (0 : Int) ≤ (k : Int) := by omega
      have i1 : (k : Int) < (m : Int) := by omega
      have i2 : (k : Int) + 1 < (m : Int) := by omega
      have i3 : (k : Int) + 2 < (m : Int) := by omega
      have i4 : (k : Int) + 3 < (m : Int) := by omega
      have j1 : (k : Int) < (m2 : Int) := by omega
      have j2 : (k : Int) + 1 < (m2 : Int) := by omega
      have j3 : (k : Int) + 2 < (m2 : Int) := by omega
      have j4 : (k : Int) + 3 < (m2 : Int) := by omega
      have n1 : (0 : Int) ≤ (k : Int) + 1 := by omega
      have n2 : (0 : Int) ≤ (k : Int) + 2 := by omega
      have n3 : (0 : Int) ≤ (k : Int) + 3 := by omega
      have t1 : ((k : Int) + 1).toNat = k + 1 := by omega
      have t2 : ((k : Int) + 2).toNat = k + 2 := by omega
      have t3 : ((k : Int) + 3).toNat = k + 3 := by omega
      have HWQ := Lib.hid hwq; clear hwq
      generalize xs k = X0 at *; generalize xs (k + 1) = X1 at *; generalize xs (k + 2) = X2 at *; generalize xs (k + 3) = X3 at *
      generalize ys k = Y0 at *; generalize ys (k + 1) = Y1 at *; generalize ys (k + 2) = Y2 at *; generalize ys (k + 3) = Y3 at *
      go_wp2_with fail
      go_quiet ((go_at_call 81; exact Calls.quiet_of_same (hcall0 _)))
      have c0 : (WR.drewN nq).cell? _ = _ := c0
      have c1 : (WR.drewN nq).cell? _ = _ := c1
      have c2 : (WR.drewN nq).cell? _ = _ := c2
      have c3 : (WR.drewN nq).cell? _ = _ := c3
      have d0 : (WR.drewN nq).cell? _ = _ := d0
      have d1 : (WR.drewN nq).cell? _ = _ := d1
      have d2 : (WR.drewN nq).cell? _ = _ := d2
      have d3 : (WR.drewN nq).cell? _ = _ := d3
      have HWQ : Hid (∃ q, WR.drewN nq = w.drewN q) := HWQ.out.elim fun q e => ⟨q + nq, by rw [e]; simp [World.drewN, Nat.add_assoc]⟩
      generalize WR.drewN nq = WR at *
      go_wp2_with fail
      go_quiet ((go_at_call 81; exact Calls.quiet_of_same (hcall1 _)))
      have c0 : (WR.drewN nq).cell? _ = _ := c0
      have c1 : (WR.drewN nq).cell? _ = _ := c1
      have c2 : (WR.drewN nq).cell? _ = _ := c2
      have c3 : (WR.drewN nq).cell? _ = _ := c3
      have d0 : (WR.drewN nq).cell? _ = _ := d0
      have d1 : (WR.drewN nq).cell? _ = _ := d1
      have d2 : (WR.drewN nq).cell? _ = _ := d2
      have d3 : (WR.drewN nq).cell? _ = _ := d3
      have HWQ : Hid (∃ q, WR.drewN nq = w.drewN q) := HWQ.out.elim fun q e => ⟨q + nq, by rw [e]; simp [World.drewN, Nat.add_assoc]⟩
      generalize WR.drewN nq = WR at *
      go_wp2_with fail
      go_quiet ((go_at_call 81; exact Calls.quiet_of_same (hcall2 _)))
      have c0 : (WR.drewN nq).cell? _ = _ := c0
      have c1 : (WR.drewN nq).cell? _ = _ := c1
      have c2 : (WR.drewN nq).cell? _ = _ := c2
      have c3 : (WR.drewN nq).cell? _ = _ := c3
      have d0 : (WR.drewN nq).cell? _ = _ := d0
      have d1 : (WR.drewN nq).cell? _ = _ := d1
      have d2 : (WR.drewN nq).cell? _ = _ := d2
      have d3 : (WR.drewN nq).cell? _ = _ := d3
      have HWQ : Hid (∃ q, WR.drewN nq = w.drewN q) := HWQ.out.elim fun q e => ⟨q + nq, by rw [e]; simp [World.drewN, Nat.add_assoc]⟩
      generalize WR.drewN nq = WR at *
      go_wp2_with fail
      go_quiet ((go_at_call 81; exact Calls.quiet_of_same (hcall3 _)))
      have c0 : (WR.drewN nq).cell? _ = _ := c0
      have c1 : (WR.drewN nq).cell? _ = _ := c1
      have c2 : (WR.drewN nq).cell? _ = _ := c2
      have c3 : (WR.drewN nq).cell? _ = _ := c3
      have d0 : (WR.drewN nq).cell? _ = _ := d0
      have d1 : (WR.drewN nq).cell? _ = _ := d1
      have d2 : (WR.drewN nq).cell? _ = _ := d2
      have d3 : (WR.drewN nq).cell? _ = _ := d3
      have HWQ : Hid (∃ q, WR.drewN nq = w.drewN q) := HWQ.out.elim fun q e => ⟨q + nq, by rw [e]; simp [World.drewN, Nat.add_assoc]⟩
      generalize WR.drewN nq = WR at *
      go_wp2_with fail
      go_roundw
      case rel => exact ⟨k + 4, a0 + h k, a1 + h (k + 1), a2 + h (k + 2), a3 + h (k + 3), by omega, by go_num, by go_num, by go_num, by go_num, by go_num, hsum', HWQ.out⟩
      case measure => simp [intOf]; omega
    · have hst2 : Hid (a0 + a1 + a2 + a3 = sumN h k) := hsum
      have hwq2 := hwq
      go_wp2_with fail
      go_loopw [10, 4] (fun i a wr => ∃ k a0 : Nat, k ≤ m ∧ i = .int .i64 k ∧ a = .int .u64 a0 ∧ Hid (a0 = sumN h k) ∧ ∃ q, wr = w.drewN q) (fun i _ _ => m - (intOf i).toNat)
      case atStart => exact ⟨k, a0 + a1 + a2 + a3, hk, rfl, by go_num, hst2, hwq2⟩
      case round =>
        obtain ⟨k, a0, hk, rfl, rfl, hsum, hwq⟩ := hrel
        have hbd : a0 ≤ 25600 := by have := HS.out k; have := hsum.out; omega
        by_cases hkm : k < m
        · obtain ⟨WR, hWR⟩ : ∃ WR, wr = WR := ⟨_, rfl⟩
          rw [hWR] at hwq ⊢
          clear hWR
          have c0 : WR.cell? ⟨g, k, none⟩ = some (.int .u64 (xs k : Nat)) := by obtain ⟨q, rfl⟩ := hwq; exact HC.out k hkm
          have d0 : WR.cell? ⟨g2, k, none⟩ = some (.int .u64 (ys k : Nat)) := by obtain ⟨q, rfl⟩ := hwq; exact HC2.out k hkm
          have b0 := HB.out k
          have hcall0 := HCALL.out k
          have hsum' : Hid (a0 + h k = sumN h (k + 1)) := by
            have := hsum.out
            show _ = sumN h k + h k
            omega
          have i0 : (0 : Int) ≤ (k : Int) := by omega
          have i1 : (k : Int) < (m : Int) := by omega
          have j1 : (k : Int) < (m2 : Int) := by omega
          have HWQ := Lib.hid hwq; clear hwq
          generalize xs k = X0 at *
          generalize ys k = Y0 at *
          go_wp2_with fail
          go_quiet ((go_at_call 81; exact Calls.quiet_of_same (hcall0 _)))
          go_wp2_with fail
          go_roundw
          case rel => exact ⟨k + 1, a0 + h k, by omega, by go_num, by go_num, hsum', HWQ.out.elim fun q e => ⟨q + nq, by rw [e]; simp [World.drewN, Nat.add_assoc]⟩⟩
          case measure => simp [intOf]; omega
        · have hkn : k = m := by omega
          subst hkn
          have hs := hsum.out
          subst hs
          go_wp2_with fail
          go_ret
          exact ⟨rfl, hwq⟩

end Go.Proofs.Ytdngkdidelogbaa

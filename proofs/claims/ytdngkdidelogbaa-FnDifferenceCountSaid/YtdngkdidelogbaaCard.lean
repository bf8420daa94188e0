/-
  The contracts of the sums of OnesCount64 over two rows.
-/
import Derived.Test.YtdngkdidelogbaaCntB
import Derived.Test.YtdngkdidelogbaaMix
namespace Go.Proofs.Ytdngkdidelogbaa
set_option linter.unusedSimpArgs false
set_option linter.unusedVariables false
open Go.RowKit

set_option maxHeartbeats 2000000 in
theorem popcntAnd_c (g g2 m m2 cap cap2 : Nat) (xs ys : Nat → Nat) (w : World) (hx : ∀ j, xs j < 2 ^ 64) (hy : ∀ j, ys j < 2 ^ 64) (hm0 : 0 < m) (hm : m ≤ 400) (hm2 : m ≤ m2) (hc : ∀ j, j < m → w.cell? ⟨g, j, none⟩ = some (.int .u64 (xs j : Nat))) (hc2 : ∀ j, j < m → w.cell? ⟨g2, j, none⟩ = some (.int .u64 (ys j : Nat))) :
    Calls Try.prog 76 #[.slice (some ⟨g, 0, none⟩) m cap, .slice (some ⟨g2, 0, none⟩) m2 cap2] w fun e w' => e = .returned (.int .u64 (sumN (fun j => pop ((fun a b => a &&& b) (xs j) (ys j))) m)) ∧ ∃ q, w' = w.drewN q := by
  obtain ⟨h, hh⟩ : ∃ h : Nat → Nat, h = fun j => pop ((fun a b => a &&& b) (xs j) (ys j)) := ⟨_, rfl⟩
  have hb : ∀ j, h j ≤ 64 := fun j => by rw [hh]; exact pop_le _
  have hs := sumN_le h hb
  rw [← hh]
  have hj : ∀ j, pop ((fun a b => a &&& b) (xs j) (ys j)) = h j := fun j => by rw [hh]
  have HJ := Lib.hid hj; have HC := Lib.hid hc; have HC2 := Lib.hid hc2; have HX := Lib.hid hx; have HY := Lib.hid hy; have HS := Lib.hid hs; have HB := Lib.hid hb
  have e0 := hc2 (m - 1) (by omega)
  have z0 : (0 : Int) ≤ (m : Int) - 1 := by omega
  have z1 : (m : Int) - 1 < (m2 : Int) := by omega
  have z3 : ((m : Int) - 1).toNat = m - 1 := by omega
  have z4 : IntKind.i64.wrap ((m : Int) - 1) = (m : Int) - 1 := by rw [IntKind.wrap_i64]; omega
  clear hh hj hc hc2 hx hy hs hb
  have hst : ∃ q, w = w.drewN q := ⟨0, rfl⟩
  go_enter Try.func76, Try.ntmps76
  go_wp2_with fail
  go_loopw [14, 4] (fun i a wr => ∃ k a0 : Nat, k ≤ m ∧ i = .int .i64 k ∧ a = .int .u64 a0 ∧ Hid (a0 = sumN h k) ∧ ∃ q, wr = w.drewN q) (fun i _ _ => m - (intOf i).toNat)
  case atStart => exact ⟨0, 0, Nat.zero_le _, rfl, rfl, rfl, hst⟩
  case round =>
    obtain ⟨k, a0, hk, rfl, rfl, hsum, hwq⟩ := hrel
    have hbd : a0 ≤ 25600 := by have := HS.out k; have := hsum.out; omega
    by_cases hkm : k < m
    · have c0 : wr.cell? ⟨g, k, none⟩ = some (.int .u64 (xs k : Nat)) := by obtain ⟨q, rfl⟩ := hwq; exact HC.out k hkm
      have c2 : wr.cell? ⟨g2, k, none⟩ = some (.int .u64 (ys k : Nat)) := by obtain ⟨q, rfl⟩ := hwq; exact HC2.out k hkm
      have x0 := HX.out k
      have y0 := HY.out k
      have j0 := HJ.out k
      have b0 := HB.out k
      have hop := bits_and_nat (xs k) (ys k) x0 y0
      have hol := wand_lt (xs k) (ys k) x0 y0
      have hsum' : Hid (a0 + h k = sumN h (k + 1)) := by
        have := hsum.out
        show _ = sumN h k + h k
        omega
      have i0 : (0 : Int) ≤ (k : Int) := by omega
      have i1 : (k : Int) < (m : Int) := by omega
      have i2 : (k : Int) < (m2 : Int) := by omega
      generalize xs k = X at *
      generalize ys k = Y at *
      have hcall : ∀ wx, Calls Try.prog 81 #[.int .u64 (bits .and .u64 (X : Int) (Y : Int))] wx fun e w' => e = .returned (.int .i64 (h k : Nat)) ∧ w' = wx := fun wx => by
        rw [hop, ← j0]
        exact onesCount_c _ hol wx
      have HWQ := Lib.hid hwq
      clear j0 hop hwq
      go_wp2_with fail
      go_quiet ((go_at_call 81; exact Calls.quiet_of_same (hcall _)))
      go_wp2_with fail
      go_roundw
      case rel => exact ⟨k + 1, a0 + h k, by omega, by go_num, by go_num, hsum', HWQ.out.elim fun q e => ⟨q + nq, by rw [e]; simp [World.drewN, Nat.add_assoc]⟩⟩
      case measure => simp [intOf]; omega
    · have hkn : k = m := by omega
      subst hkn
      have hs := hsum.out
      subst hs
      go_wp2_with fail
      go_ret
      exact ⟨rfl, hwq⟩
set_option maxHeartbeats 2000000 in
theorem popcntOr_c (g g2 m m2 cap cap2 : Nat) (xs ys : Nat → Nat) (w : World) (hx : ∀ j, xs j < 2 ^ 64) (hy : ∀ j, ys j < 2 ^ 64) (hm0 : 0 < m) (hm : m ≤ 400) (hm2 : m ≤ m2) (hc : ∀ j, j < m → w.cell? ⟨g, j, none⟩ = some (.int .u64 (xs j : Nat))) (hc2 : ∀ j, j < m → w.cell? ⟨g2, j, none⟩ = some (.int .u64 (ys j : Nat))) :
    Calls Try.prog 77 #[.slice (some ⟨g, 0, none⟩) m cap, .slice (some ⟨g2, 0, none⟩) m2 cap2] w fun e w' => e = .returned (.int .u64 (sumN (fun j => pop ((fun a b => a ||| b) (xs j) (ys j))) m)) ∧ ∃ q, w' = w.drewN q := by
  obtain ⟨h, hh⟩ : ∃ h : Nat → Nat, h = fun j => pop ((fun a b => a ||| b) (xs j) (ys j)) := ⟨_, rfl⟩
  have hb : ∀ j, h j ≤ 64 := fun j => by rw [hh]; exact pop_le _
  have hs := sumN_le h hb
  rw [← hh]
  have hj : ∀ j, pop ((fun a b => a ||| b) (xs j) (ys j)) = h j := fun j => by rw [hh]
  have HJ := Lib.hid hj; have HC := Lib.hid hc; have HC2 := Lib.hid hc2; have HX := Lib.hid hx; have HY := Lib.hid hy; have HS := Lib.hid hs; have HB := Lib.hid hb
  have e0 := hc2 (m - 1) (by omega)
  have z0 : (0 : Int) ≤ (m : Int) - 1 := by omega
  have z1 : (m : Int) - 1 < (m2 : Int) := by omega
  have z3 : ((m : Int) - 1).toNat = m - 1 := by omega
  have z4 : IntKind.i64.wrap ((m : Int) - 1) = (m : Int) - 1 := by rw [IntKind.wrap_i64]; omega
  clear hh hj hc hc2 hx hy hs hb
  have hst : ∃ q, w = w.drewN q := ⟨0, rfl⟩
  go_enter Try.func77, Try.ntmps77
  go_wp2_with fail
  go_loopw [14, 4] (fun i a wr => ∃ k a0 : Nat, k ≤ m ∧ i = .int .i64 k ∧ a = .int .u64 a0 ∧ Hid (a0 = sumN h k) ∧ ∃ q, wr = w.drewN q) (fun i _ _ => m - (intOf i).toNat)
  case atStart => exact ⟨0, 0, Nat.zero_le _, rfl, rfl, rfl, hst⟩
  case round =>
    obtain ⟨k, a0, hk, rfl, rfl, hsum, hwq⟩ := hrel
    have hbd : a0 ≤ 25600 := by have := HS.out k; have := hsum.out; omega
    by_cases hkm : k < m
    · have c0 : wr.cell? ⟨g, k, none⟩ = some (.int .u64 (xs k : Nat)) := by obtain ⟨q, rfl⟩ := hwq; exact HC.out k hkm
      have c2 : wr.cell? ⟨g2, k, none⟩ = some (.int .u64 (ys k : Nat)) := by obtain ⟨q, rfl⟩ := hwq; exact HC2.out k hkm
      have x0 := HX.out k
      have y0 := HY.out k
      have j0 := HJ.out k
      have b0 := HB.out k
      have hop := bits_or_nat (xs k) (ys k) x0 y0
      have hol := wor_lt (xs k) (ys k) x0 y0
      have hsum' : Hid (a0 + h k = sumN h (k + 1)) := by
        have := hsum.out
        show _ = sumN h k + h k
        omega
      have i0 : (0 : Int) ≤ (k : Int) := by omega
      have i1 : (k : Int) < (m : Int) := by omega
      have i2 : (k : Int) < (m2 : Int) := by omega
      generalize xs k = X at *
      generalize ys k = Y at *
      have hcall : ∀ wx, Calls Try.prog 81 #[.int .u64 (bits .or .u64 (X : Int) (Y : Int))] wx fun e w' => e = .returned (.int .i64 (h k : Nat)) ∧ w' = wx := fun wx => by
        rw [hop, ← j0]
        exact onesCount_c _ hol wx
      have HWQ := Lib.hid hwq
      clear j0 hop hwq
      go_wp2_with fail
      go_quiet ((go_at_call 81; exact Calls.quiet_of_same (hcall _)))
      go_wp2_with fail
      go_roundw
      case rel => exact ⟨k + 1, a0 + h k, by omega, by go_num, by go_num, hsum', HWQ.out.elim fun q e => ⟨q + nq, by rw [e]; simp [World.drewN, Nat.add_assoc]⟩⟩
      case measure => simp [intOf]; omega
    · have hkn : k = m := by omega
      subst hkn
      have hs := hsum.out
      subst hs
      go_wp2_with fail
      go_ret
      exact ⟨rfl, hwq⟩
set_option maxHeartbeats 2000000 in
theorem popcntXor_c (g g2 m m2 cap cap2 : Nat) (xs ys : Nat → Nat) (w : World) (hx : ∀ j, xs j < 2 ^ 64) (hy : ∀ j, ys j < 2 ^ 64) (hm0 : 0 < m) (hm : m ≤ 400) (hm2 : m ≤ m2) (hc : ∀ j, j < m → w.cell? ⟨g, j, none⟩ = some (.int .u64 (xs j : Nat))) (hc2 : ∀ j, j < m → w.cell? ⟨g2, j, none⟩ = some (.int .u64 (ys j : Nat))) :
    Calls Try.prog 80 #[.slice (some ⟨g, 0, none⟩) m cap, .slice (some ⟨g2, 0, none⟩) m2 cap2] w fun e w' => e = .returned (.int .u64 (sumN (fun j => pop ((fun a b => a ^^^ b) (xs j) (ys j))) m)) ∧ ∃ q, w' = w.drewN q := by
  obtain ⟨h, hh⟩ : ∃ h : Nat → Nat, h = fun j => pop ((fun a b => a ^^^ b) (xs j) (ys j)) := ⟨_, rfl⟩
  have hb : ∀ j, h j ≤ 64 := fun j => by rw [hh]; exact pop_le _
  have hs := sumN_le h hb
  rw [← hh]
  have hj : ∀ j, pop ((fun a b => a ^^^ b) (xs j) (ys j)) = h j := fun j => by rw [hh]
  have HJ := Lib.hid hj; have HC := Lib.hid hc; have HC2 := Lib.hid hc2; have HX := Lib.hid hx; have HY := Lib.hid hy; have HS := Lib.hid hs; have HB := Lib.hid hb
  have e0 := hc2 (m - 1) (by omega)
  have z0 : (0 : Int) ≤ (m : Int) - 1 := by omega
  have z1 : (m : Int) - 1 < (m2 : Int) := by omega
  have z3 : ((m : Int) - 1).toNat = m - 1 := by omega
  have z4 : IntKind.i64.wrap ((m : Int) - 1) = (m : Int) - 1 := by rw [IntKind.wrap_i64]; omega
  clear hh hj hc hc2 hx hy hs hb
  have hst : ∃ q, w = w.drewN q := ⟨0, rfl⟩
  go_enter Try.func80, Try.ntmps80
  go_wp2_with fail
  go_loopw [14, 4] (fun i a wr => ∃ k a0 : Nat, k ≤ m ∧ i = .int .i64 k ∧ a = .int .u64 a0 ∧ Hid (a0 = sumN h k) ∧ ∃ q, wr = w.drewN q) (fun i _ _ => m - (intOf i).toNat)
  case atStart => exact ⟨0, 0, Nat.zero_le _, rfl, rfl, rfl, hst⟩
  case round =>
    obtain ⟨k, a0, hk, rfl, rfl, hsum, hwq⟩ := hrel
    have hbd : a0 ≤ 25600 := by have := HS.out k; have := hsum.out; omega
    by_cases hkm : k < m
    · have c0 : wr.cell? ⟨g, k, none⟩ = some (.int .u64 (xs k : Nat)) := by obtain ⟨q, rfl⟩ := hwq; exact HC.out k hkm
      have c2 : wr.cell? ⟨g2, k, none⟩ = some (.int .u64 (ys k : Nat)) := by obtain ⟨q, rfl⟩ := hwq; exact HC2.out k hkm
      have x0 := HX.out k
      have y0 := HY.out k
      have j0 := HJ.out k
      have b0 := HB.out k
      have hop := bits_xor_nat (xs k) (ys k) x0 y0
      have hol := wxor_lt (xs k) (ys k) x0 y0
      have hsum' : Hid (a0 + h k = sumN h (k + 1)) := by
        have := hsum.out
        show _ = sumN h k + h k
        omega
      have i0 : (0 : Int) ≤ (k : Int) := by omega
      have i1 : (k : Int) < (m : Int) := by omega
      have i2 : (k : Int) < (m2 : Int) := by omega
      generalize xs k = X at *
      generalize ys k = Y at *
      have hcall : ∀ wx, Calls Try.prog 81 #[.int .u64 (bits .xor .u64 (X : Int) (Y : Int))] wx fun e w' => e = .returned (.int .i64 (h k : Nat)) ∧ w' = wx := fun wx => by
        rw [hop, ← j0]
        exact onesCount_c _ hol wx
      have HWQ := Lib.hid hwq
      clear j0 hop hwq
      go_wp2_with fail
      go_quiet ((go_at_call 81; exact Calls.quiet_of_same (hcall _)))
      go_wp2_with fail
      go_roundw
      case rel => exact ⟨k + 1, a0 + h k, by omega, by go_num, by go_num, hsum', HWQ.out.elim fun q e => ⟨q + nq, by rw [e]; simp [World.drewN, Nat.add_assoc]⟩⟩
      case measure => simp [intOf]; omega
    · have hkn : k = m := by omega
      subst hkn
      have hs := hsum.out
      subst hs
      go_wp2_with fail
      go_ret
      exact ⟨rfl, hwq⟩

end Go.Proofs.Ytdngkdidelogbaa

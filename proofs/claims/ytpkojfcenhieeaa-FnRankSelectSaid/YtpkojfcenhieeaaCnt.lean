/-
  The contracts of OnesCount64 and of the sums of it over a row of at most 400 words.
-/
import Derived.Test.YtpkojfcenhieeaaPop
import Derived.Test.YtpkojfcenhieeaaAlike
namespace Go.Proofs.Ytpkojfcenhieeaa
set_option linter.unusedSimpArgs false
set_option linter.unusedVariables false
open Go.RowKit

theorem rep85 : rep 85 8 = 6148914691236517205 := by decide
theorem rep51 : rep 51 8 = 3689348814741910323 := by decide
theorem rep15 : rep 15 8 = 1085102592571150095 := by decide

theorem sw_lt (k m x : Nat) (hm : 2 * m < 2 ^ 64) : (x / k &&& m) + (x &&& m) < 2 ^ 64 := by
  have h1 : x / k &&& m ≤ m := Nat.and_le_right
  have h2 : x &&& m ≤ m := Nat.and_le_right
  omega

theorem i64_small (n : Nat) (h : n ≤ 64) : IntKind.i64.wrap (n : Int) = (n : Int) := by rw [IntKind.wrap_i64]; omega
theorem and127 (V : Nat) (h : V < 2 ^ 64) : bits .and .i64 (V : Int) 127 = IntKind.i64.wrap ((V % 128 : Nat) : Int) := by
  show IntKind.i64.wrap ((BitVec.ofInt 64 (V : Int) &&& BitVec.ofInt 64 ((127 : Nat) : Int)).toNat : Int) = _
  rw [BitVec.toNat_and, ofInt64 V h, ofInt64 127 (by decide), show (127 : Nat) = 2 ^ 7 - 1 from rfl, Nat.and_two_pow_sub_one_eq_mod]
set_option maxHeartbeats 1000000 in
theorem onesCount_c (x : Nat) (hx : x < 2 ^ 64) (w : World) :
    Calls Try.prog 29 #[.int .u64 x] w fun e w' => e = .returned (.int .i64 (pop x)) ∧ w' = w := by
  obtain ⟨p1, p2⟩ := pop_swar x hx
  obtain ⟨A, hA⟩ : ∃ A, sw1 6148914691236517205 x = A := ⟨_, rfl⟩
  obtain ⟨B, hB⟩ : ∃ B, sw2 3689348814741910323 A = B := ⟨_, rfl⟩
  obtain ⟨X, hX⟩ : ∃ X, sw3 1085102592571150095 B = X := ⟨_, rfl⟩
  have hsw : swar 8 x = X := by
    unfold swar pre
    rw [rep85, rep51, rep15, hA, hB, hX]
  rw [hsw] at p1 p2
  obtain ⟨Y, hY⟩ : ∃ Y, X + X / 256 = Y := ⟨_, rfl⟩
  obtain ⟨Z, hZ⟩ : ∃ Z, Y + Y / 65536 = Z := ⟨_, rfl⟩
  obtain ⟨V, hV⟩ : ∃ V, Z + Z / 4294967296 = V := ⟨_, rfl⟩
  rw [hY, hZ, hV] at p2
  have hAl : A ≤ 12297829382473034410 := by
    have h1 : x / 2 &&& 6148914691236517205 ≤ 6148914691236517205 := Nat.and_le_right
    have h2 : x &&& 6148914691236517205 ≤ 6148914691236517205 := Nat.and_le_right
    have h3 : (x / 2 &&& 6148914691236517205) + (x &&& 6148914691236517205) = A := hA
    omega
  have hBl : B ≤ 7378697629483820646 := by
    have h1 : A / 4 &&& 3689348814741910323 ≤ 3689348814741910323 := Nat.and_le_right
    have h2 : A &&& 3689348814741910323 ≤ 3689348814741910323 := Nat.and_le_right
    have h3 : (A / 4 &&& 3689348814741910323) + (A &&& 3689348814741910323) = B := hB
    omega
  have hYl : Y < 2305843009213693952 := by clear hZ hV p2 hAl hBl hA hB hX hsw; omega
  have hZl : Z < 4611686018427387904 := by clear hY hV p2 hAl hBl hA hB hX hsw; omega
  have hVl : V < 9223372036854775808 := by clear hY hZ p2 hAl hBl hA hB hX hsw; omega
  have e1 : IntKind.u64.wrap (bits .and .u64 ((x : Int) / 2) 6148914691236517205 + bits .and .u64 (x : Int) 6148914691236517205) = (A : Int) := by
    rw [show (x : Int) / 2 = ((x / 2 : Nat) : Int) by omega, show bits .and .u64 ((x / 2 : Nat) : Int) 6148914691236517205 = _ from bits_and_nat (x / 2) 6148914691236517205 (by omega) (by decide), show bits .and .u64 (x : Int) 6148914691236517205 = _ from bits_and_nat x 6148914691236517205 hx (by decide), ← Int.natCast_add, u64_wrap_nat _ (by show sw1 6148914691236517205 x < _; omega)]
    exact congrArg Nat.cast hA
  have e2 : IntKind.u64.wrap (bits .and .u64 ((A : Int) / 4) 3689348814741910323 + bits .and .u64 (A : Int) 3689348814741910323) = (B : Int) := by
    rw [show (A : Int) / 4 = ((A / 4 : Nat) : Int) by omega, show bits .and .u64 ((A / 4 : Nat) : Int) 3689348814741910323 = _ from bits_and_nat (A / 4) 3689348814741910323 (by omega) (by decide), show bits .and .u64 (A : Int) 3689348814741910323 = _ from bits_and_nat A 3689348814741910323 (by omega) (by decide), ← Int.natCast_add, u64_wrap_nat _ (by show sw2 3689348814741910323 A < _; omega)]
    exact congrArg Nat.cast hB
  have e3 : bits .and .u64 (IntKind.u64.wrap ((B : Int) / 16 + (B : Int))) 1085102592571150095 = (X : Int) := by
    rw [show (B : Int) / 16 = ((B / 16 : Nat) : Int) by omega, ← Int.natCast_add, u64_wrap_nat _ (by omega), show bits .and .u64 ((B / 16 + B : Nat) : Int) 1085102592571150095 = _ from bits_and_nat (B / 16 + B) 1085102592571150095 (by omega) (by decide)]
    exact congrArg Nat.cast hX
  have e4 : IntKind.u64.wrap ((X : Int) + (X : Int) / 256) = (Y : Int) := by rw [IntKind.wrap_u64]; clear hZ hV p2 hAl hBl hA hB hX hsw e1 e2 e3; omega
  have e5 : IntKind.u64.wrap ((Y : Int) + (Y : Int) / 65536) = (Z : Int) := by rw [IntKind.wrap_u64]; clear hY hV p2 hAl hBl hA hB hX hsw e1 e2 e3 e4; omega
  have e6 : IntKind.u64.wrap ((Z : Int) + (Z : Int) / 4294967296) = (V : Int) := by rw [IntKind.wrap_u64]; clear hY hZ p2 hAl hBl hA hB hX hsw e1 e2 e3 e4 e5; omega
  have e7 : wrap64 (V : Int) = (V : Int) := by unfold wrap64; clear hY hZ hV p2 hAl hBl hA hB hX hsw e1 e2 e3 e4 e5 e6; omega
  have e8 : bits .and .i64 (V : Int) 127 = (pop x : Int) := by
    rw [and127 V (Nat.lt_trans hVl (by decide)), p2, i64_small (pop x) (onL_le 64 _)]
  have E1 := Lib.hid e1; have E2 := Lib.hid e2; have E3 := Lib.hid e3; have E4 := Lib.hid e4; have E5 := Lib.hid e5; have E6 := Lib.hid e6; have E7 := Lib.hid e7; have E8 := Lib.hid e8
  clear e1 e2 e3 e4 e5 e6 e7 e8 p1 p2 hsw hA hB hX hY hZ hV hAl hBl
  go_enter Try.func29, Try.ntmps29
  go_wp2
  rw [E1.out, E2.out, E3.out, E4.out, E5.out, E6.out]
  rw [E7.out, E8.out]
  go_ret
  exact ⟨rfl, rfl⟩

def sumN (h : Nat → Nat) : Nat → Nat
  | 0 => 0
  | n + 1 => sumN h n + h n
theorem sumN_le (h : Nat → Nat) (hb : ∀ j, h j ≤ 64) (n : Nat) : sumN h n ≤ 64 * n := by
  induction n with
  | zero => exact Nat.le_refl _
  | succ n ih => unfold sumN; have := hb n; omega
theorem pop_le (x : Nat) : pop x ≤ 64 := onL_le 64 _

set_option maxHeartbeats 2000000 in
theorem popcntSlice_c (g off m cap : Nat) (xs : Nat → Nat) (w : World) (hx : ∀ j, xs j < 2 ^ 64) (hm : m ≤ 400) (hc : ∀ j, j < m → w.cell? ⟨g, off + j, none⟩ = some (.int .u64 (xs j : Nat))) :
    Calls Try.prog 31 #[.slice (some ⟨g, off, none⟩) m cap] w fun e w' => e = .returned (.int .u64 (sumN (fun j => pop (xs j)) m)) ∧ w' = w := by
  obtain ⟨h, hh⟩ : ∃ h : Nat → Nat, h = fun j => pop (xs j) := ⟨_, rfl⟩
  have hb : ∀ j, h j ≤ 64 := fun j => by rw [hh]; exact pop_le _
  have hs := sumN_le h hb
  rw [← hh]
  have hj : ∀ j, pop (xs j) = h j := fun j => by rw [hh]
  have HJ := Lib.hid hj; have HC := Lib.hid hc; have HX := Lib.hid hx; have HS := Lib.hid hs; have HB := Lib.hid hb
  clear hh hj hc hx hs hb
  go_enter Try.func31, Try.ntmps31
  go_wp2_with fail
  go_loop [8, 3, 4, 5, 6] (fun i a b c d => ∃ k a0 a1 a2 a3 : Nat, k ≤ m ∧ i = .int .i64 k ∧ a = .int .u64 a0 ∧ b = .int .u64 a1 ∧ c = .int .u64 a2 ∧ d = .int .u64 a3 ∧ Hid (a0 + a1 + a2 + a3 = sumN h k)) (fun i _ _ _ _ => m - (intOf i).toNat)
  case atStart => exact ⟨0, 0, 0, 0, 0, Nat.zero_le _, rfl, rfl, rfl, rfl, rfl, rfl⟩
  case round =>
    obtain ⟨k, a0, a1, a2, a3, hk, rfl, rfl, rfl, rfl, rfl, hsum⟩ := hrel
    have hbd : a0 + a1 + a2 + a3 ≤ 25600 := by have := HS.out k; have := hsum.out; omega
    by_cases hkm : (k : Int) ≤ (m : Int) - 4
    · have c0 := HC.out k (by omega)
      have c1 := HC.out (k + 1) (by omega)
      have c2 := HC.out (k + 2) (by omega)
      have c3 := HC.out (k + 3) (by omega)
      have x0 := HX.out k; have x1 := HX.out (k + 1); have x2 := HX.out (k + 2); have x3 := HX.out (k + 3)
      have j0 := HJ.out k; have j1 := HJ.out (k + 1); have j2 := HJ.out (k + 2); have j3 := HJ.out (k + 3)
      have b0 := HB.out k; have b1 := HB.out (k + 1); have b2 := HB.out (k + 2); have b3 := HB.out (k + 3)
      have hsum' : Hid ((a0 + h k) + (a1 + h (k + 1)) + (a2 + h (k + 2)) + (a3 + h (k + 3)) = sumN h (k + 4)) := by
        have := hsum.out
        show _ = sumN h k + h k + h (k + 1) + h (k + 2) + h (k + 3)
        omega
      have i0 : (0 : Int) ≤ (k : Int) := by omega
      have i1 : (k : Int) < (m : Int) := by omega
      have i2 : (k : Int) + 1 < (m : Int) := by omega
      have i3 : (k : Int) + 2 < (m : Int) := by omega
      have i4 : (k : Int) + 3 < (m : Int) := by omega
      have t1 : ((k : Int) + 1).toNat = k + 1 := by omega
      have t2 : ((k : Int) + 2).toNat = k + 2 := by omega
      have t3 : ((k : Int) + 3).toNat = k + 3 := by omega
      generalize xs k = X0 at *
      generalize xs (k + 1) = X1 at *
      generalize xs (k + 2) = X2 at *
      generalize xs (k + 3) = X3 at *
      have J0 := Lib.hid j0; have J1 := Lib.hid j1; have J2 := Lib.hid j2; have J3 := Lib.hid j3
      clear j0 j1 j2 j3
      go_wp2_with fail
      refine (onesCount_c X0 x0 _).mono ?_
      rintro e w' ⟨rfl, rfl⟩
      rw [J0.out]
      go_wp2_with fail
      refine (onesCount_c X1 x1 _).mono ?_
      rintro e w' ⟨rfl, rfl⟩
      rw [J1.out]
      go_wp2_with fail
      refine (onesCount_c X2 x2 _).mono ?_
      rintro e w' ⟨rfl, rfl⟩
      rw [J2.out]
      go_wp2_with fail
      refine (onesCount_c X3 x3 _).mono ?_
      rintro e w' ⟨rfl, rfl⟩
      rw [J3.out]
      go_wp2_with fail
      go_round
      case rel => exact ⟨k + 4, a0 + h k, a1 + h (k + 1), a2 + h (k + 2), a3 + h (k + 3), by omega, by go_num, by go_num, by go_num, by go_num, by go_num, hsum'⟩
      case measure => simp [intOf]; omega
    · go_wp2_with fail
      have hst : Hid (a0 + a1 + a2 + a3 = sumN h k) := hsum
      go_loop [8, 2] (fun i a => ∃ k a0 : Nat, k ≤ m ∧ i = .int .i64 k ∧ a = .int .u64 a0 ∧ Hid (a0 = sumN h k)) (fun i _ => m - (intOf i).toNat)
      case atStart => exact ⟨k, a0 + a1 + a2 + a3, hk, rfl, by go_num, hst⟩
      case round =>
        obtain ⟨k, a0, hk, rfl, rfl, hsum⟩ := hrel
        have hbd : a0 ≤ 25600 := by have := HS.out k; have := hsum.out; omega
        by_cases hkm : k < m
        · have c0 := HC.out k (by omega)
          have x0 := HX.out k
          have j0 := HJ.out k
          have b0 := HB.out k
          have hsum' : Hid (a0 + h k = sumN h (k + 1)) := by
            have := hsum.out
            show _ = sumN h k + h k
            omega
          have i0 : (0 : Int) ≤ (k : Int) := by omega
          have i1 : (k : Int) < (m : Int) := by omega
          generalize xs k = X0 at *
          have J0 := Lib.hid j0; clear j0
          go_wp2_with fail
          refine (onesCount_c X0 x0 _).mono ?_
          rintro e w' ⟨rfl, rfl⟩
          rw [J0.out]
          go_wp2_with fail
          go_round
          case rel => exact ⟨k + 1, a0 + h k, by omega, by go_num, by go_num, hsum'⟩
          case measure => simp [intOf]; omega
        · have hkn : k = m := by omega
          subst hkn
          have hs := hsum.out
          subst hs
          go_wp2_with fail
          go_ret
          exact ⟨rfl, rfl⟩
end Go.Proofs.Ytpkojfcenhieeaa

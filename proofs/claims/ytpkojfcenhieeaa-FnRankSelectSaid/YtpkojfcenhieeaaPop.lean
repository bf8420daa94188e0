/-
  How many bits of a word are set: the sum by steps that the library uses is the count, for words below 2^64.
-/
import Derived.Test.YtpkojfcenhieeaaPart
namespace Go.Proofs.Ytpkojfcenhieeaa
set_option linter.unusedSimpArgs false
set_option linter.unusedVariables false
open Go.RowKit

theorem and_cat (a b c d : Nat) (hb : b < 256) (hd : d < 256) : (256 * a + b) &&& (256 * c + d) = 256 * (a &&& c) + (b &&& d) := by
  have hbd : b &&& d < 2 ^ 8 := Nat.and_lt_two_pow _ hd
  apply Nat.eq_of_testBit_eq
  intro i
  rw [Nat.testBit_and, show (256 : Nat) = 2 ^ 8 from rfl, Nat.testBit_two_pow_mul_add _ hb, Nat.testBit_two_pow_mul_add _ hd, Nat.testBit_two_pow_mul_add _ hbd]
  split
  · rw [Nat.testBit_and]
  · rw [Nat.testBit_and]
/-- n bytes alike. -/
def rep (c : Nat) : Nat → Nat
  | 0 => 0
  | n + 1 => 256 * rep c n + c
def sw1 (m x : Nat) : Nat := (x / 2 &&& m) + (x &&& m)
def sw2 (m x : Nat) : Nat := (x / 4 &&& m) + (x &&& m)
def sw3 (m x : Nat) : Nat := (x / 16 + x) &&& m
theorem sw1_fin : ∀ (r : Fin 2) (b : Fin 256), ((r.1 * 128 + b.1 / 2) &&& 85) + (b.1 &&& 85) = sw1 85 b.1 ∧ sw1 85 b.1 < 256 := by decide +kernel
theorem sw2_fin : ∀ (r : Fin 4) (b : Fin 256), ((r.1 * 64 + b.1 / 4) &&& 51) + (b.1 &&& 51) = sw2 51 b.1 ∧ sw2 51 b.1 < 256 := by decide +kernel
theorem sw3_fin : ∀ (r : Fin 5) (b : Fin 256), sw2 51 (sw1 85 b.1) ≤ 68 ∧ sw2 51 (sw1 85 b.1) % 16 ≤ 4 ∧ ((r.1 * 16 + sw2 51 (sw1 85 b.1) / 16 + sw2 51 (sw1 85 b.1)) &&& 15) = ((List.range 8).filter b.1.testBit).length := by decide +kernel
theorem sw1_cat (m a b : Nat) (hb : b < 256) : sw1 (256 * m + 85) (256 * a + b) = 256 * sw1 m a + sw1 85 b := by
  have h := (sw1_fin ⟨a % 2, by omega⟩ ⟨b, hb⟩).1
  simp only at h
  have e : (256 * a + b) / 2 = 256 * (a / 2) + (a % 2 * 128 + b / 2) := by omega
  show ((256 * a + b) / 2 &&& (256 * m + 85)) + ((256 * a + b) &&& (256 * m + 85)) = 256 * ((a / 2 &&& m) + (a &&& m)) + sw1 85 b
  rw [e, and_cat _ _ _ _ (by omega) (by decide), and_cat _ _ _ _ hb (by decide)]
  omega
theorem sw2_cat (m a b : Nat) (hb : b < 256) : sw2 (256 * m + 51) (256 * a + b) = 256 * sw2 m a + sw2 51 b := by
  have h := (sw2_fin ⟨a % 4, by omega⟩ ⟨b, hb⟩).1
  simp only at h
  have e : (256 * a + b) / 4 = 256 * (a / 4) + (a % 4 * 64 + b / 4) := by omega
  show ((256 * a + b) / 4 &&& (256 * m + 51)) + ((256 * a + b) &&& (256 * m + 51)) = 256 * ((a / 4 &&& m) + (a &&& m)) + sw2 51 b
  rw [e, and_cat _ _ _ _ (by omega) (by decide), and_cat _ _ _ _ hb (by decide)]
  omega
def pre (n x : Nat) : Nat := sw2 (rep 51 n) (sw1 (rep 85 n) x)
theorem pre_cat (n a b : Nat) (hb : b < 256) : pre (n + 1) (256 * a + b) = 256 * pre n a + sw2 51 (sw1 85 b) := by
  show sw2 (256 * rep 51 n + 51) (sw1 (256 * rep 85 n + 85) (256 * a + b)) = 256 * sw2 (rep 51 n) (sw1 (rep 85 n) a) + sw2 51 (sw1 85 b)
  rw [sw1_cat _ _ _ hb, sw2_cat _ _ _ (sw1_fin 0 ⟨b, hb⟩).2]
theorem pre_mod (n a : Nat) : pre n a % 16 ≤ 4 := by
  cases n with
  | zero => simp [pre, rep, sw2]
  | succ n =>
    have h := (sw3_fin 0 ⟨a % 256, Nat.mod_lt _ (by decide)⟩).2.1
    simp only at h
    rw [show a = 256 * (a / 256) + a % 256 by omega, pre_cat _ _ _ (Nat.mod_lt _ (by decide))]
    omega
def swar (n x : Nat) : Nat := sw3 (rep 15 n) (pre n x)
theorem swar_cat (n a b : Nat) (hb : b < 256) : swar (n + 1) (256 * a + b) = 256 * swar n a + (onL 8 b.testBit).length := by
  have hm := pre_mod n a
  obtain ⟨h1, h2, h3⟩ := sw3_fin ⟨pre n a % 16, by omega⟩ ⟨b, hb⟩
  simp only at h1 h2 h3
  unfold swar
  rw [pre_cat _ _ _ hb]
  generalize sw2 51 (sw1 85 b) = c at *
  generalize pre n a = p at *
  have e : (256 * p + c) / 16 + (256 * p + c) = 256 * (p / 16 + p) + (p % 16 * 16 + c / 16 + c) := by omega
  show ((256 * p + c) / 16 + (256 * p + c)) &&& (256 * rep 15 n + 15) = 256 * ((p / 16 + p) &&& rep 15 n) + (onL 8 b.testBit).length
  rw [e, and_cat _ _ _ _ (by omega) (by decide), h3]
  rfl
theorem onL_len_add (m n : Nat) (f : Nat → Bool) : (onL (m + n) f).length = (onL m f).length + (onL n (fun j => f (m + j))).length := by
  unfold onL
  rw [List.range_add, List.filter_append, List.length_append, List.filter_map, List.length_map]
  rfl
theorem onL_len_cat (n a b : Nat) (hb : b < 256) : (onL (8 + n) (256 * a + b).testBit).length = (onL 8 b.testBit).length + (onL n a.testBit).length := by
  rw [onL_len_add]
  have e : ∀ j, (256 * a + b).testBit j = if j < 8 then b.testBit j else a.testBit (j - 8) := fun j => by
    rw [show (256 : Nat) = 2 ^ 8 from rfl, Nat.testBit_two_pow_mul_add _ hb]
  congr 1
  · unfold onL
    exact congrArg List.length (List.filter_congr fun j hj => by rw [e, if_pos (List.mem_range.1 hj)])
  · unfold onL
    exact congrArg List.length (List.filter_congr fun j hj => by rw [e, if_neg (by omega), show 8 + j - 8 = j by omega])
/-- How many bits of a word are set. -/
def pop (x : Nat) : Nat := (onL 64 x.testBit).length
theorem onL8_le (f : Nat → Bool) : (onL 8 f).length ≤ 8 := onL_le 8 f
theorem div_cat (d q r : Nat) (h : r < d) : (d * q + r) / d = q := by
  rw [Nat.mul_add_div (by omega), Nat.div_eq_of_lt h, Nat.add_zero]
theorem sum1 (p0 p1 p2 p3 p4 p5 p6 p7 : Nat) : (256 * (256 * (256 * (256 * (256 * (256 * (256 * p7 + p6) + p5) + p4) + p3) + p2) + p1) + p0) + (256 * (256 * (256 * (256 * (256 * (256 * p7 + p6) + p5) + p4) + p3) + p2) + p1) =
    65536 * ((p2 + p3) + 256 * (p3 + p4) + 65536 * (p4 + p5) + 16777216 * (p5 + p6) + 4294967296 * (p6 + p7) + 1099511627776 * p7) + (256 * (p1 + p2) + (p0 + p1)) := by omega
theorem sum2 (p0 p1 p2 p3 p4 p5 p6 p7 : Nat) : 65536 * ((p2 + p3) + 256 * (p3 + p4) + 65536 * (p4 + p5) + 16777216 * (p5 + p6) + 4294967296 * (p6 + p7) + 1099511627776 * p7) + (256 * (p1 + p2) + (p0 + p1)) + ((p2 + p3) + 256 * (p3 + p4) + 65536 * (p4 + p5) + 16777216 * (p5 + p6) + 4294967296 * (p6 + p7) + 1099511627776 * p7) =
    4294967296 * ((p4 + p5 + p6 + p7) + 256 * (p5 + p6 + p7) + 65536 * (p6 + p7) + 16777216 * p7) + (16777216 * (p3 + p4 + p5 + p6) + 65536 * (p2 + p3 + p4 + p5) + 256 * (p1 + p2 + p3 + p4) + (p0 + p1 + p2 + p3)) := by omega
theorem sum3 (p0 p1 p2 p3 p4 p5 p6 p7 : Nat) : 4294967296 * ((p4 + p5 + p6 + p7) + 256 * (p5 + p6 + p7) + 65536 * (p6 + p7) + 16777216 * p7) + (16777216 * (p3 + p4 + p5 + p6) + 65536 * (p2 + p3 + p4 + p5) + 256 * (p1 + p2 + p3 + p4) + (p0 + p1 + p2 + p3)) + ((p4 + p5 + p6 + p7) + 256 * (p5 + p6 + p7) + 65536 * (p6 + p7) + 16777216 * p7) =
    128 * (33554432 * ((p4 + p5 + p6 + p7) + 256 * (p5 + p6 + p7) + 65536 * (p6 + p7) + 16777216 * p7) + (131072 * (p3 + p4 + p5 + p6) + 512 * (p2 + p3 + p4 + p5) + 2 * (p1 + p2 + p3 + p4)) + 2 * (p5 + p6 + p7) + 512 * (p6 + p7) + 131072 * p7) + (p0 + p1 + p2 + p3 + p4 + p5 + p6 + p7) := by omega
theorem bnd0 (p0 p1 p2 p3 p4 p5 p6 p7 : Nat) (h0 : p0 ≤ 8) (h1 : p1 ≤ 8) (h2 : p2 ≤ 8) (h3 : p3 ≤ 8) (h4 : p4 ≤ 8) (h5 : p5 ≤ 8) (h6 : p6 ≤ 8) (h7 : p7 ≤ 8) :
    (256 * (256 * (256 * (256 * (256 * (256 * (256 * p7 + p6) + p5) + p4) + p3) + p2) + p1) + p0) ≤ 578721382704613384 := by omega
/-- The last three sums, and the mask. -/
theorem sums (p0 p1 p2 p3 p4 p5 p6 p7 X : Nat) (h0 : p0 ≤ 8) (h1 : p1 ≤ 8) (h2 : p2 ≤ 8) (h3 : p3 ≤ 8) (h4 : p4 ≤ 8) (h5 : p5 ≤ 8) (h6 : p6 ≤ 8) (h7 : p7 ≤ 8)
    (hX : X = 256 * (256 * (256 * (256 * (256 * (256 * (256 * p7 + p6) + p5) + p4) + p3) + p2) + p1) + p0) :
    X < 2 ^ 60 ∧ (X + X / 256 + (X + X / 256) / 65536 + (X + X / 256 + (X + X / 256) / 65536) / 4294967296) % 128 = p0 + p1 + p2 + p3 + p4 + p5 + p6 + p7 := by
  have b := bnd0 p0 p1 p2 p3 p4 p5 p6 p7 h0 h1 h2 h3 h4 h5 h6 h7
  rw [← hX] at b
  refine ⟨Nat.lt_of_le_of_lt b (by decide), ?_⟩
  have e1 : X / 256 = 256 * (256 * (256 * (256 * (256 * (256 * p7 + p6) + p5) + p4) + p3) + p2) + p1 := by rw [hX]; exact div_cat _ _ _ (Nat.lt_of_le_of_lt h0 (by decide))
  rw [e1, hX, sum1, div_cat _ _ _ (show 256 * (p1 + p2) + (p0 + p1) < 65536 by clear b e1 hX; omega), sum2, div_cat _ _ _ (show 16777216 * (p3 + p4 + p5 + p6) + 65536 * (p2 + p3 + p4 + p5) + 256 * (p1 + p2 + p3 + p4) + (p0 + p1 + p2 + p3) < 4294967296 by clear b e1 hX; omega), sum3, Nat.mul_add_mod]
  exact Nat.mod_eq_of_lt (by clear b e1 hX; omega)
/-- What the library computes from a word. -/
theorem pop_swar (x : Nat) (hx : x < 2 ^ 64) : swar 8 x < 2 ^ 60 ∧ (swar 8 x + swar 8 x / 256 + (swar 8 x + swar 8 x / 256) / 65536 + (swar 8 x + swar 8 x / 256 + (swar 8 x + swar 8 x / 256) / 65536) / 4294967296) % 128 = pop x := by
  have step : ∀ n y, swar (n + 1) y = 256 * swar n (y / 256) + (onL 8 (y % 256).testBit).length := fun n y => by
    have := swar_cat n (y / 256) (y % 256) (Nat.mod_lt _ (by decide))
    rwa [show 256 * (y / 256) + y % 256 = y by omega] at this
  have stepL : ∀ n y, (onL (8 + n) y.testBit).length = (onL 8 (y % 256).testBit).length + (onL n (y / 256).testBit).length := fun n y => by
    have := onL_len_cat n (y / 256) (y % 256) (Nat.mod_lt _ (by decide))
    rwa [show 256 * (y / 256) + y % 256 = y by omega] at this
  obtain ⟨x1, e1⟩ : ∃ x1, x / 256 = x1 := ⟨_, rfl⟩
  obtain ⟨x2, e2⟩ : ∃ y, x1 / 256 = y := ⟨_, rfl⟩
  obtain ⟨x3, e3⟩ : ∃ y, x2 / 256 = y := ⟨_, rfl⟩
  obtain ⟨x4, e4⟩ : ∃ y, x3 / 256 = y := ⟨_, rfl⟩
  obtain ⟨x5, e5⟩ : ∃ y, x4 / 256 = y := ⟨_, rfl⟩
  obtain ⟨x6, e6⟩ : ∃ y, x5 / 256 = y := ⟨_, rfl⟩
  obtain ⟨x7, e7⟩ : ∃ y, x6 / 256 = y := ⟨_, rfl⟩
  obtain ⟨x8, e8⟩ : ∃ y, x7 / 256 = y := ⟨_, rfl⟩
  have e0 : swar 0 x8 = 0 := by simp [swar, sw3, rep]
  have s1 := step 7 x
  have s2 := step 6 x1
  have s3 := step 5 x2
  have s4 := step 4 x3
  have s5 := step 3 x4
  have s6 := step 2 x5
  have s7 := step 1 x6
  have s8 := step 0 x7
  rw [e1] at s1; rw [e2] at s2; rw [e3] at s3; rw [e4] at s4; rw [e5] at s5; rw [e6] at s6; rw [e7] at s7; rw [e8, e0, Nat.mul_zero, Nat.zero_add] at s8
  have l1 := stepL 56 x
  have l2 := stepL 48 x1
  have l3 := stepL 40 x2
  have l4 := stepL 32 x3
  have l5 := stepL 24 x4
  have l6 := stepL 16 x5
  have l7 := stepL 8 x6
  have l8 := stepL 0 x7
  rw [e1] at l1; rw [e2] at l2; rw [e3] at l3; rw [e4] at l4; rw [e5] at l5; rw [e6] at l6; rw [e7] at l7; rw [e8, show (onL 0 x8.testBit).length = 0 from rfl, Nat.add_zero] at l8
  simp only [Nat.reduceAdd] at s1 s2 s3 s4 s5 s6 s7 s8 l1 l2 l3 l4 l5 l6 l7 l8
  have hs : swar 8 x = _ := s1
  rw [s2, s3, s4, s5, s6, s7, s8] at hs
  simp only [Nat.zero_add, Nat.add_zero] at hs l8
  obtain ⟨p0, q0⟩ : ∃ p, (onL 8 (x % 256).testBit).length = p := ⟨_, rfl⟩
  have b0 : p0 ≤ 8 := by rw [← q0]; exact onL8_le _
  rw [q0] at l1 hs
  obtain ⟨p1, q1⟩ : ∃ p, (onL 8 (x1 % 256).testBit).length = p := ⟨_, rfl⟩
  have b1 : p1 ≤ 8 := by rw [← q1]; exact onL8_le _
  rw [q1] at l2 hs
  obtain ⟨p2, q2⟩ : ∃ p, (onL 8 (x2 % 256).testBit).length = p := ⟨_, rfl⟩
  have b2 : p2 ≤ 8 := by rw [← q2]; exact onL8_le _
  rw [q2] at l3 hs
  obtain ⟨p3, q3⟩ : ∃ p, (onL 8 (x3 % 256).testBit).length = p := ⟨_, rfl⟩
  have b3 : p3 ≤ 8 := by rw [← q3]; exact onL8_le _
  rw [q3] at l4 hs
  obtain ⟨p4, q4⟩ : ∃ p, (onL 8 (x4 % 256).testBit).length = p := ⟨_, rfl⟩
  have b4 : p4 ≤ 8 := by rw [← q4]; exact onL8_le _
  rw [q4] at l5 hs
  obtain ⟨p5, q5⟩ : ∃ p, (onL 8 (x5 % 256).testBit).length = p := ⟨_, rfl⟩
  have b5 : p5 ≤ 8 := by rw [← q5]; exact onL8_le _
  rw [q5] at l6 hs
  obtain ⟨p6, q6⟩ : ∃ p, (onL 8 (x6 % 256).testBit).length = p := ⟨_, rfl⟩
  have b6 : p6 ≤ 8 := by rw [← q6]; exact onL8_le _
  rw [q6] at l7 hs
  obtain ⟨p7, q7⟩ : ∃ p, (onL 8 (x7 % 256).testBit).length = p := ⟨_, rfl⟩
  have b7 : p7 ≤ 8 := by rw [← q7]; exact onL8_le _
  rw [q7] at l8 hs
  generalize swar 8 x = X at hs ⊢
  clear s1 s2 s3 s4 s5 s6 s7 s8 step stepL e0
  obtain ⟨a1, a2⟩ := sums p0 p1 p2 p3 p4 p5 p6 p7 X b0 b1 b2 b3 b4 b5 b6 b7 hs
  refine ⟨a1, a2.trans ?_⟩
  show _ = (onL 64 x.testBit).length
  rw [l1, l2, l3, l4, l5, l6, l7, l8]
  simp only [Nat.add_assoc]

end Go.Proofs.Ytpkojfcenhieeaa

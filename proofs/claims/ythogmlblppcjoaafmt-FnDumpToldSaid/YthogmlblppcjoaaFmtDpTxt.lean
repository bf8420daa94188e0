/-
  The text of a word as "%064b." prints it: sixty-four signs, the last bit first, and a point.
-/
import Derived.Test.YthogmlblppcjoaaFmtProg
import Derived.Stop.FmtTextBases
import Derived.Stop.FmtTextKit
import Derived.Stop.Told
import Derived.Stop.Texts
namespace Go.Proofs.YthogmlblppcjoaaFmt
set_option linter.unusedSimpArgs false
set_option linter.unusedVariables false
open Go.RowKit Go.Extern.Stop Go.Stop Go.Extern

/-- The last k bits of u, the highest first, as signs. -/
def sg (b : Bool) : UInt8 := if b then 49 else 48
def bn : Nat → Nat → List UInt8
  | 0, _ => []
  | k + 1, u => bn k (u / 2) ++ [sg (u.testBit 0)]
theorem bn_length (k u : Nat) : (bn k u).length = k := by
  induction k generalizing u with
  | zero => rfl
  | succ k ih => simp [bn, ih]
theorem bn_zero (k : Nat) : bn k 0 = List.replicate k 48 := by
  induction k with
  | zero => rfl
  | succ k ih => rw [bn, show (0 : Nat) / 2 = 0 from rfl, ih, List.replicate_succ']; rfl
theorem bn_getD (k u i : Nat) (h : i < k) : (bn k u).getD i 0 = sg (u.testBit (k - 1 - i)) := by
  induction k generalizing u with
  | zero => omega
  | succ k ih =>
    rw [bn, List.getD_eq_getElem?_getD]
    by_cases e : i < k
    · rw [List.getElem?_append_left (by rw [bn_length]; exact e), ← List.getD_eq_getElem?_getD, ih (u / 2) e, Nat.testBit_div_two]
      congr 2; omega
    · obtain rfl : i = k := by omega
      rw [List.getElem?_append_right (by rw [bn_length]; exact Nat.le_refl _), bn_length]
      simp
theorem digit_sg (d : Nat) (h : d < 2) : FmtText.digit false d = sg (d.testBit 0) := by
  have : d = 0 ∨ d = 1 := by omega
  rcases this with rfl | rfl <;> rfl
theorem digits_bn (fuel u : Nat) (acc : List UInt8) (h : u < 2 ^ fuel) : ∃ ds, FmtText.digitsFrom 2 false fuel u acc = ds ++ acc ∧ ds.length ≤ fuel ∧ ∀ k, fuel ≤ k → bn k u = List.replicate (k - ds.length) 48 ++ ds := by
  induction fuel generalizing u acc with
  | zero =>
    obtain rfl : u = 0 := by simpa using h
    exact ⟨[], rfl, Nat.le_refl _, fun k _ => by simp [bn_zero]⟩
  | succ fuel ih =>
    rw [FmtText.digitsFrom]
    by_cases hu : u < 2
    · rw [if_pos hu]
      refine ⟨[FmtText.digit false u], rfl, by simp, fun k hk => ?_⟩
      obtain ⟨k, rfl⟩ : ∃ j, k = j + 1 := ⟨k - 1, by omega⟩
      rw [bn, show u / 2 = 0 by omega, bn_zero, digit_sg u hu]
      simp
    · rw [if_neg hu]
      obtain ⟨ds, h1, h2, h3⟩ := ih (u / 2) (FmtText.digit false (u % 2) :: acc) (by rw [Nat.pow_succ] at h; omega)
      refine ⟨ds ++ [FmtText.digit false (u % 2)], by rw [h1]; simp, by simp; omega, fun k hk => ?_⟩
      obtain ⟨k, rfl⟩ : ∃ j, k = j + 1 := ⟨k - 1, by omega⟩
      rw [bn, h3 k (by omega), digit_sg _ (Nat.mod_lt _ (by decide))]
      have e : (u % 2).testBit 0 = u.testBit 0 := by simp [Nat.testBit_zero]
      rw [e]
      simp [Nat.add_sub_add_right]
theorem sg_ascii (b : Bool) : (sg b).toNat < 128 := by cases b <;> decide
theorem bn_ascii (k u : Nat) : ∀ c ∈ bn k u, c.toNat < 128 := by
  induction k generalizing u with
  | zero => intro c hc; cases hc
  | succ k ih =>
    intro c hc
    rw [bn] at hc
    rcases List.mem_append.1 hc with hc | hc
    · exact ih _ c hc
    · rw [List.mem_singleton.1 hc]; exact sg_ascii _
theorem fmtInteger_bn (u : Nat) (h : u < 2 ^ 64) : FmtText.fmtInteger { widPresent := true, wid := 64, zero := true } u 2 false 98 false = bn 64 u := by
  obtain ⟨ds, h1, h2, h3⟩ := digits_bn 64 u [] h
  have hn : FmtText.numeral 2 false u = ds := by rw [FmtText.numeral, h1, List.append_nil]
  have e : bn 64 u = List.replicate (64 - (FmtText.numeral 2 false u).length) 48 ++ FmtText.numeral 2 false u := by rw [hn]; exact h3 64 (Nat.le_refl _)
  have hz : FmtText.pad { widPresent := true, wid := 64, zero := false } (bn 64 u) = bn 64 u := by
    simp [FmtText.pad, FmtText.runeCount_ascii _ (bn_ascii 64 u), FmtText.padding, bn_length]
  rw [← hz, e]
  simp [FmtText.fmtInteger]

def shape51 : List UInt8 := [9, 6, 0, 0, 0, 0, 0, 0, 0, 117, 105, 110, 116, 54, 52]
def asked (x : Int) : List (List UInt8) := [[37, 48, 54, 52, 98, 46], shape51, digits 8 (x % 18446744073709551616).toNat]
theorem w_parse : (FmtText.parse [37, 48, 54, 52, 98, 46]).map FmtText.glue = some [.verb { widPresent := true, wid := 64, zero := true } 98, .lit [46]] := by rfl
theorem w_text (x : Nat) (h : x < 2 ^ 64) : FmtText.text "fmt.Sprintf" (asked (x : Int)) = some (bn 64 x ++ [46]) := by
  have hw : (Lit.int .u64 (x : Int)).wf = true := by
    simp [Lit.wf, IntKind.min, IntKind.max, IntKind.signed, IntKind.bits]; omega
  have hi := FmtText.operand_int_at (sh := shape51) (k := .u64) rfl rfl (x : Int) hw
  rw [asked, FmtText.text_sprintf_glued w_parse (FmtText.operands_cons hi FmtText.operands_nil)]
  have e : ((x : Int) % 18446744073709551616).toNat = x := by omega
  rw [e]
  simp [FmtText.render, FmtText.printArg, FmtText.scalarArg, FmtText.fits, IntKind.signed, fmtInteger_bn x h]
theorem w_told (F : Interp) (x : Nat) (h : x < 2 ^ 64) : FmtStop.textOf (F.told "fmt.Sprintf" (asked (x : Int)) 0) = ⟨(bn 64 x ++ [46]).toArray⟩ := by
  have ht := told_string F (w_text x h) (by rw [List.length_append, bn_length]; decide)
  rw [← Go.Kit.textOf_list] at ht
  apply ByteArray.ext
  exact Array.toList_inj.1 (by simpa using ht)

end Go.Proofs.YthogmlblppcjoaaFmt

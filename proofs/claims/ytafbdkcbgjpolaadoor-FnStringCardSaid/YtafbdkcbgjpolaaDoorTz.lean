/-
  The contract of TrailingZeros64 at every word that is not 0, where its table lies as its initialiser lays it.
-/
import Derived.Lib.TrailingZeros
import Derived.Test.YtafbdkcbgjpolaaDoorSet
namespace Go.Proofs.YtafbdkcbgjpolaaDoor
set_option linter.unusedSimpArgs false
set_option linter.unusedVariables false
set_option maxRecDepth 100000
open Go.RowKit


/-- The table of TrailingZeros64 in its variable. -/
def TabW (w : World) : Prop := ∀ j, j < 64 → w.cell? ⟨0, j, none⟩ = some (.int .u8 (Lib.deBruijn64tab.getD j 0 : Nat))
theorem TabW.kept {S : List Nat} {w w' : World} (h : TabW w) (k : Kept S w w') (h0 : 0 ∉ S) : TabW w' := fun j hj => k.cell (by simpa using h0) (h j hj)
theorem TabW.kept0 {w w' : World} (h : TabW w) (k : Kept [] w w') : TabW w' := h.kept k (by simp)
theorem TabW.pos {w : World} (h : TabW w) : 0 < w.heap.size := World.block_lt_of_cell? _ _ (h 0 (by decide))
theorem tz_key (x a : Nat) (hx : x < 18446744073709551616) (hx0 : x ≠ 0) (hlow : x &&& (18446744073709551616 - x) = a) :
    IntKind.u64.wrap (bits BinOp.and IntKind.u64 (x : Int) (IntKind.u64.wrap (-(x : Int))) * 285870213051353865) / 288230376151711744 = ((a * 285870213051353865 % 18446744073709551616 / 288230376151711744 : Nat) : Int) := by
  have e1 : IntKind.u64.wrap (-(x : Int)) = ((18446744073709551616 - x : Nat) : Int) := by rw [IntKind.wrap_u64]; omega
  rw [e1, bits_and_nat x _ hx (by omega), hlow, IntKind.wrap_u64]
  omega
/-- How many zeros a word ends in: below that place its bits are clear, there one is set. -/
theorem ctz_bits (x : Nat) (hx : x < 2 ^ 64) (hx0 : x ≠ 0) : Lib.ctz 64 x < 64 ∧ x.testBit (Lib.ctz 64 x) = true ∧ ∀ t, t < Lib.ctz 64 x → x.testBit t = false := by
  obtain ⟨m, hm, hk⟩ := Lib.ctzFrom_spec 64 x (by omega) hx
  have e : Lib.ctz 64 x = Lib.ctzFrom 64 x := by simp [Lib.ctz, hx0]
  rw [e]
  generalize Lib.ctzFrom 64 x = k at *
  clear e
  subst hm
  refine ⟨hk, ?_, fun t ht => ?_⟩
  · rw [Nat.testBit_two_pow_mul, Nat.sub_self]; simp
  · rw [Nat.testBit_two_pow_mul, decide_eq_false (show ¬ t ≥ k by omega)]; rfl
set_option maxHeartbeats 1000000 in
theorem tz_core (x k idx : Nat) (w : World) (hx0 : ((x : Int) == 0) = false)
    (key : IntKind.u64.wrap (bits BinOp.and IntKind.u64 (x : Int) (IntKind.u64.wrap (-(x : Int))) * 285870213051353865) / 288230376151711744 = (idx : Int))
    (hi : idx < 64) (hk : k < 64) (hcell : w.cell? ⟨0, idx, none⟩ = some (.int .u8 k)) :
    Calls Tryd.prog 38 #[.int .u64 x] w fun e w' => e = .returned (.int .i64 k) ∧ w' = w := by
  go_enter Tryd.func38, Tryd.ntmps38
  go_wp2_with (simp only [key])
  go_ret
  exact ⟨rfl, rfl⟩
theorem tz_c (X : Nat) (hX : X < 18446744073709551616) (hX0 : X ≠ 0) (w : World) (hT : TabW w) : Calls Tryd.prog 38 #[.int .u64 X] w fun e w' => e = .returned (.int .i64 (Lib.ctz 64 X : Nat)) ∧ w' = w := by
  obtain ⟨hlow, hk⟩ := Lib.lowest_bit 64 X hX0 hX
  obtain ⟨hi, htab⟩ := Lib.deBruijn64_at _ hk
  have hcell := hT _ hi
  rw [htab] at hcell
  exact tz_core X _ _ w (by simp; omega) (tz_key X _ hX hX0 hlow) hi hk hcell
theorem tz_q (X : Nat) (hX : X < 2 ^ 64) (hX0 : X ≠ 0) (w : World) (hT : TabW w) : Calls Tryd.prog 38 #[.int .u64 X] w fun e w' => e = .returned (.int .i64 (Lib.ctz 64 X : Nat)) ∧ w' = w := tz_c X hX hX0 w hT

end Go.Proofs.YtafbdkcbgjpolaaDoor

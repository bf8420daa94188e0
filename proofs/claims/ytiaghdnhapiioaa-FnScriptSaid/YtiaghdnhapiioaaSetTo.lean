/-
  The contract of SetTo.
-/
import Derived.Test.YtiaghdnhapiioaaOps
namespace Go.Proofs.Ytiaghdnhapiioaa
set_option linter.unusedSimpArgs false
set_option linter.unusedVariables false
open Go.RowKit

theorem setToT_c (b g n i : Nat) (f : Nat → Bool) (w : World) (h : BSet w b g n f) (hn : n ≤ 20001) (hi : i ≤ 20000) :
    Calls Try.prog 52 #[.pointer (some ⟨b, 0, none⟩), .int .u64 i, .bool true] w fun e w' => e = .returned (.pointer (some ⟨b, 0, none⟩)) ∧ ∃ g', BSet w' b g' (max n (i + 1)) (fun j => (j == i) || (decide (j < n) && f j)) ∧ (g' = g ∨ w.heap.size ≤ g') ∧ Kept [b, g] w w' := by
  go_enter Try.func52, Try.ntmps52
  go_wp2_with fail
  refine (set_c b g n i f w h hn hi).mono ?_
  rintro e w1 ⟨rfl, h1⟩
  go_wp2_with fail
  go_ret
  exact ⟨rfl, h1⟩
theorem setToF_c (b g n i : Nat) (f : Nat → Bool) (w : World) (h : BSet w b g n f) (hn : n ≤ 20001) (hi : i ≤ 20000) :
    Calls Try.prog 52 #[.pointer (some ⟨b, 0, none⟩), .int .u64 i, .bool false] w fun e w' => e = .returned (.pointer (some ⟨b, 0, none⟩)) ∧ BSet w' b g n (fun j => !(j == i) && f j) ∧ Kept [b, g] w w' := by
  go_enter Try.func52, Try.ntmps52
  go_wp2_with fail
  refine (clear_c b g n i f w h hn hi).mono ?_
  rintro e w1 ⟨rfl, h1⟩
  go_wp2_with fail
  go_ret
  exact ⟨rfl, h1⟩


end Go.Proofs.Ytiaghdnhapiioaa

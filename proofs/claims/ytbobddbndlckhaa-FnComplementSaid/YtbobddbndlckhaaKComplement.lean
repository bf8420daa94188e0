/-
  The function that laws.FnComplement hands to From.
-/
import Derived.Test.YtbobddbndlckhaaMemo
import Derived.Test.YtbobddbndlckhaaRow
namespace Go.Proofs.Ytbobddbndlckhaa
set_option linter.unusedSimpArgs false
set_option linter.unusedVariables false
open Go.RowKit

set_option maxHeartbeats 1000000 in
theorem fnComplement_cl (X b n c i : Nat) (f : Nat → Bool) (w : World) (hX : w.heap[X]? = some (.cells #[.slice (some ⟨b, 0, none⟩) n c, .bool true] 28 (0, 0)))
    (h1 : SpecSet w (.agg #[.slice (some ⟨b, 0, none⟩) n c, .bool true]) n f true) :
    Calls Try.prog 40 ((#[] : Array Value).push (.int .i64 i) ++ #[.pointer (some ⟨X, 0, none⟩)]) w fun e w' => e = .returned (.bool (!(decide (i < n) && f i))) ∧ Kept [] w w' := by
  have e1 : (decide (i < n) && f i) = fAt n f (i : Int) := by simp [fAt]
  rw [e1]
  clear e1
  obtain ⟨x0, x1, _, _, _, _⟩ := box2 hX (.bool true) (.bool true)
  obtain ⟨z, hz⟩ : ∃ z, fAt n f (i : Int) = z := ⟨_, rfl⟩
  rw [hz]
  have HZ := Lib.hid hz; clear hz
  go_enter Try.func40, Try.ntmps40
  go_wp2_with fail
  refine (at_c _ n f true i _ h1).mono ?_
  rintro e w1 ⟨rfl, k1⟩
  rw [HZ.out]
  go_wp2_with fail
  go_ret
  exact ⟨by simp, k1⟩

end Go.Proofs.Ytbobddbndlckhaa

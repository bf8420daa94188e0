/-
  The function that laws.FnDeMorgan hands to From.
-/
import Derived.Test.YtiaghdnhapiioaaMemo
import Derived.Test.YtiaghdnhapiioaaRow
namespace Go.Proofs.Ytiaghdnhapiioaa
set_option linter.unusedSimpArgs false
set_option linter.unusedVariables false
open Go.RowKit

set_option maxHeartbeats 1000000 in
theorem fnDeMorgan_cl (X Y b1 n1 c1 b2 n2 c2 i : Nat) (f1 f2 : Nat → Bool) (w : World) (hX : w.heap[X]? = some (.cells #[.slice (some ⟨b1, 0, none⟩) n1 c1, .bool true] 28 (0, 0))) (hY : w.heap[Y]? = some (.cells #[.slice (some ⟨b2, 0, none⟩) n2 c2, .bool true] 28 (0, 0)))
    (h1 : SpecSet w (.agg #[.slice (some ⟨b1, 0, none⟩) n1 c1, .bool true]) n1 f1 true) (h2 : SpecSet w (.agg #[.slice (some ⟨b2, 0, none⟩) n2 c2, .bool true]) n2 f2 true) :
    Calls Try.prog 22 ((#[] : Array Value).push (.int .i64 i) ++ #[.pointer (some ⟨X, 0, none⟩), .pointer (some ⟨Y, 0, none⟩)]) w fun e w' => e = .returned (.bool (!(decide (i < n1) && f1 i) && !(decide (i < n2) && f2 i))) ∧ Kept [] w w' := by
  have e1 : (decide (i < n1) && f1 i) = fAt n1 f1 (i : Int) := by simp [fAt]
  have e2 : (decide (i < n2) && f2 i) = fAt n2 f2 (i : Int) := by simp [fAt]
  rw [e1, e2]
  clear e1 e2
  obtain ⟨x0, x1, _, _, _, _⟩ := box2 hX (.bool true) (.bool true)
  obtain ⟨y0, y1, _, _, _, _⟩ := box2 hY (.bool true) (.bool true)
  cases hx : fAt n1 f1 (i : Int) with
  | true =>
    have HX := Lib.hid hx; clear hx
    obtain ⟨z, hz⟩ : ∃ z, fAt n2 f2 (i : Int) = z := ⟨_, rfl⟩
    rw [hz]
    have HZ := Lib.hid hz; clear hz
    go_enter Try.func22, Try.ntmps22
    go_wp2_with fail
    refine (at_c _ n1 f1 true i _ h1).mono ?_
    rintro e w1 ⟨rfl, k1⟩
    rw [HX.out]
    obtain ⟨p0, p1, _, _, _, _⟩ := box2 (k1.heap (by simp) hY) (.bool true) (.bool true)
    go_wp2_with fail
    go_ret
    exact ⟨by simp, k1⟩
  | false =>
    have HX := Lib.hid hx; clear hx
    obtain ⟨z, hz⟩ : ∃ z, fAt n2 f2 (i : Int) = z := ⟨_, rfl⟩
    rw [hz]
    have HZ := Lib.hid hz; clear hz
    go_enter Try.func22, Try.ntmps22
    go_wp2_with fail
    refine (at_c _ n1 f1 true i _ h1).mono ?_
    rintro e w1 ⟨rfl, k1⟩
    rw [HX.out]
    obtain ⟨p0, p1, _, _, _, _⟩ := box2 (k1.heap (by simp) hY) (.bool true) (.bool true)
    go_wp2_with fail
    refine (at_c _ n2 f2 true i _ (h2.kept k1)).mono ?_
    rintro e w2 ⟨rfl, k2⟩
    rw [HZ.out]
    go_wp2_with fail
    go_ret
    exact ⟨by simp, k1.trans0 k2⟩


end Go.Proofs.Ytiaghdnhapiioaa

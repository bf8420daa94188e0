/-
  The function that laws.FnCopy hands to From, within the length.
-/
import Derived.Test.YtfdddnpmgaoddaaMemo
import Derived.Test.YtfdddnpmgaoddaaRow
namespace Go.Proofs.Ytfdddnpmgaoddaa
set_option linter.unusedSimpArgs false
set_option linter.unusedVariables false
open Go.RowKit

set_option maxHeartbeats 1000000 in
theorem fnCopy_cl (Z X Y b1 n1 c1 i n : Nat) (f1 : Nat → Bool) (w : World) (hZ : w.heap[Z]? = some (.cells #[.int .i64 n] 3 (0, 0))) (hX : w.heap[X]? = some (.cells #[.slice (some ⟨b1, 0, none⟩) n1 c1, .bool true] 28 (0, 0)))
    (h1 : SpecSet w (.agg #[.slice (some ⟨b1, 0, none⟩) n1 c1, .bool true]) n1 f1 true) (hin : i < n) :
    Calls Try.prog 31 ((#[] : Array Value).push (.int .i64 i) ++ #[.pointer (some ⟨Z, 0, none⟩), .pointer (some ⟨X, 0, none⟩), .pointer (some ⟨Y, 0, none⟩)]) w fun e w' => e = .returned (.bool (decide (i < n1) && f1 i)) ∧ Kept [] w w' := by
  have e1 : (decide (i < n1) && f1 i) = fAt n1 f1 (i : Int) := by simp [fAt]
  rw [e1]
  clear e1
  have z0 : w.cell? ⟨Z, 0, none⟩ = some (.int .i64 n) := (cell_of_heap hZ).trans rfl
  have x0 : w.cell? ⟨X, 0, none⟩ = some (.slice (some ⟨b1, 0, none⟩) n1 c1) := (cell_of_heap hX).trans rfl
  have x1 : w.cell? ⟨X, 1, none⟩ = some (.bool true) := (cell_of_heap hX).trans rfl
  have i1 : (i : Int) < (n : Int) := by omega
  have i2 : ¬ (n : Int) ≤ (i : Int) := by omega
  cases hx : fAt n1 f1 (i : Int) with
  | true =>
    have HX := Lib.hid hx; clear hx
    go_enter Try.func31, Try.ntmps31
    go_wp2_with fail
    refine (at_c _ n1 f1 true i _ h1).mono ?_
    rintro e w1 ⟨rfl, k1⟩
    rw [HX.out]
    have z0' := k1.cell (by simp) z0
    go_wp2_with fail
    go_ret
    exact ⟨by simp, k1⟩
  | false =>
    have HX := Lib.hid hx; clear hx
    go_enter Try.func31, Try.ntmps31
    go_wp2_with fail
    refine (at_c _ n1 f1 true i _ h1).mono ?_
    rintro e w1 ⟨rfl, k1⟩
    rw [HX.out]
    have z0' := k1.cell (by simp) z0
    go_wp2_with fail
    go_ret
    exact ⟨by simp, k1⟩

end Go.Proofs.Ytfdddnpmgaoddaa

/-
  The table of TrailingZeros64 lies as the row's condition says; the door's own heap meets it.
-/
import Derived.LaidMore
import Derived.OpenShut
import Derived.Stop.Joined
import Derived.Test.YtafbdkcbgjpolaaDoorTie
import Derived.Test.YtafbdkcbgjpolaaDoorCards
import Derived.Test.YtafbdkcbgjpolaaDoorTz
import Derived.Test.YtafbdkcbgjpolaaDoorRow
namespace Go.Proofs.YtafbdkcbgjpolaaDoor
set_option linter.unusedSimpArgs false
set_option linter.unusedVariables false
set_option maxRecDepth 100000
open Go.RowKit


open Go.ChangeShapes Go.WideShapes Go.ChangeAt Go.Joins
def laid1 : List (String × DataW Unit) := [("math/bits.deBruijn64tab", Rows.laid_math_bits_deBruijn64tab)]
theorem Tryd.gTab : Tryd.prog.globalNamed "math/bits.deBruijn64tab" = some 0 := by kernel_rfl
theorem Tryd.tTab : (Tryd.prog.globals[0]?).map (·.type) = some 84 := by kernel_rfl
theorem Tryd.cellsU8 : Tryd.prog.cellsOf 5 = 1 := by kernel_rfl
theorem tab_data : (Rows.laid_math_bits_deBruijn64tab : DataW Unit) = .agg (Lib.deBruijn64tab.map fun (x : Nat) => .lit (.int .u8 (x : Int))) := by kernel_rfl
theorem tab_len : Lib.deBruijn64tab.length = 64 := by decide
/-- What the condition gives the walks. -/
theorem tab_of_laid {W : World} (h : laidMetH Tryd.prog laid1 W) : TabW W := by
  rw [MakeChecks.laidMetH_plain _ _ _ (by kernel_rfl)] at h
  obtain ⟨ps, ⟨g0, t0, cs0, f0, p0, q0, hg0, ht0, hv0, hd0, _, _⟩, _, _⟩ := h
  obtain rfl := Option.some.inj (Tryd.gTab.symm.trans hg0)
  obtain rfl := Option.some.inj (Tryd.tTab.symm.trans ht0)
  obtain ⟨xs, m1, rfl, hx1, hlen, hn3, hel⟩ := DataW.trod_array Tryd.underlying84 hd0
  rw [tab_data] at hx1
  simp only [Prod.mk.injEq, DataW.agg.injEq] at hx1
  intro j hj
  have h1 := hel j hj
  rw [Tryd.cellsU8] at h1
  have hxj : xs[j]? = some (xs[j]'(by omega)) := List.getElem?_eq_getElem (by omega)
  rw [hxj] at h1
  obtain ⟨k, e1, e2, _⟩ := DataW.trod_int Tryd.underlying5 h1
  have h2 : (xs.map (·.1))[j]? = (Lib.deBruijn64tab.map fun (x : Nat) => (DataW.lit (Lit.int .u8 (x : Int)) : DataW Unit))[j]? := by rw [← hx1.1]
  rw [List.getElem?_map, List.getElem?_map, hxj, List.getElem?_eq_getElem (show j < Lib.deBruijn64tab.length by rw [tab_len]; exact hj)] at h2
  simp only [Option.map_some, Option.some.injEq] at h2
  rw [e2] at h2
  have hk : k = ((Lib.deBruijn64tab[j]'(by rw [tab_len]; exact hj) : Nat) : Int) := by simpa using h2
  have h3 := World.var?_cell hg0 hv0 j
  have h4 : cs0[j]? = some (.int .u8 k) := by
    have : (cs0.toList.drop (j * 1)).take 1 = [.int .u8 k] := e1
    rw [Nat.mul_one] at this
    have h5 : (cs0.toList.drop j)[0]? = some (.int .u8 k) := by
      have := congrArg (fun l => l[0]?) this
      simpa [List.getElem?_take] using this
    rw [List.getElem?_drop] at h5
    simpa using h5
  rw [h4] at h3
  rw [getD_in _ _ _ (show j < Lib.deBruijn64tab.length by rw [tab_len]; exact hj), ← hk]
  exact h3
theorem door_met (os : Os) (args : Array Value) : laidMetH Tryd.prog laid1 ((World.doorLaid Tryd.prog 400 os).forCall (fun _ _ => 0) ⟨#[], args, []⟩).memory :=
  laidMetH_of_parts3 (fuel := 80) (laidMet_of_run' 80 (by kernel_rfl) (by kernel_rfl)) (by kernel_rfl) (by kernel_rfl)

end Go.Proofs.YtafbdkcbgjpolaaDoor

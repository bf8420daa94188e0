/-
  A row of a call's own that is kept; the bits up to a place. Under no condition.
-/
import Derived.Test.YtafbdkcbgjpolaaDoorNext
import Derived.Test.YtafbdkcbgjpolaaDoorAlike
import Derived.Test.YtafbdkcbgjpolaaDoorMemo
import Derived.Test.YtafbdkcbgjpolaaDoorLeast
namespace Go.Proofs.YtafbdkcbgjpolaaDoor
set_option linter.unusedSimpArgs false
set_option linter.unusedVariables false
set_option maxRecDepth 100000
open Go.RowKit

theorem ownsRow_kept {w w' : World} {B e sz n : Nat} {v : Value} {xs : List Value} (h : w.ownsRow B e sz v n xs) (k : Kept [] w w') : w'.ownsRow B e sz v n xs := by
  obtain ⟨h1, h2⟩ := h
  refine ⟨h1, ?_⟩
  rcases h2 with h2 | ⟨g, cap, cur, e1, e2, e3, e4⟩
  · exact .inl h2
  · exact .inr ⟨g, cap, cur, e1, e2, k.heap (by simp) e3, e4⟩
theorem onL_none (p q n : Nat) (f : Nat → Bool) (hpq : p ≤ q) (hq : q ≤ n) (h : NoneIn n f p q) : onL q f = onL p f := (onL_ext p q f f hpq (fun _ _ => rfl) (fun j h1 h2 => h j h1 h2 (by omega))).symm

end Go.Proofs.YtafbdkcbgjpolaaDoor

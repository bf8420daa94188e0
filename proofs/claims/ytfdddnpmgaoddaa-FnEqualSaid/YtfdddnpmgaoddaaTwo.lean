/-
  The contracts of panicIfNull, wordCount, sortByLength; for sets of at most 20000 bits.
-/
import Derived.Test.YtfdddnpmgaoddaaMix
namespace Go.Proofs.Ytfdddnpmgaoddaa
set_option linter.unusedSimpArgs false
set_option linter.unusedVariables false
open Go.RowKit


theorem wordCount_c (b g n : Nat) (f : Nat → Bool) (w : World) (h : BSet w b g n f) (hn : n ≤ 20001) :
    Calls Try.prog 65 #[.pointer (some ⟨b, 0, none⟩)] w fun e w' => e = .returned (.int .i64 ((n + 63) / 64 : Nat)) ∧ w = w' := by
  have hc0 : w.cell? ⟨b, 0, none⟩ = some (.int .u64 n) := by obtain ⟨_, cap, ws, hh, _, _⟩ := h; exact hh.c0
  clear h
  go_enter Try.func65, Try.ntmps65
  go_wp2
  go_ret
  exact ⟨by simp, rfl⟩

end Go.Proofs.Ytfdddnpmgaoddaa

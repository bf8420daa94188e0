/-
  The contracts of panicIfNull, wordCount, sortByLength; for sets of at most 20000 bits.
-/
import Derived.Test.YtiaghdnhapiioaaMix
namespace Go.Proofs.Ytiaghdnhapiioaa
set_option linter.unusedSimpArgs false
set_option linter.unusedVariables false
open Go.RowKit


theorem panicIfNull_c (p : Addr) (w : World) : Calls Try.prog 64 #[.pointer (some p)] w fun e w' => e = .returned (.tuple #[]) ∧ w = w' := by
  go_enter Try.func64, Try.ntmps64
  go_wp2
  go_end0
  exact ⟨rfl, rfl⟩
theorem wordCount_c (b g n : Nat) (f : Nat → Bool) (w : World) (h : BSet w b g n f) (hn : n ≤ 20001) :
    Calls Try.prog 71 #[.pointer (some ⟨b, 0, none⟩)] w fun e w' => e = .returned (.int .i64 ((n + 63) / 64 : Nat)) ∧ w = w' := by
  have hc0 : w.cell? ⟨b, 0, none⟩ = some (.int .u64 n) := by obtain ⟨_, cap, ws, hh, _, _⟩ := h; exact hh.c0
  clear h
  go_enter Try.func71, Try.ntmps71
  go_wp2
  go_ret
  exact ⟨by simp, rfl⟩
theorem sort_c (b1 b2 n1 n2 : Nat) (w : World) (h1 : w.cell? ⟨b1, 0, none⟩ = some (.int .u64 n1)) (h2 : w.cell? ⟨b2, 0, none⟩ = some (.int .u64 n2)) :
    Calls Try.prog 67 #[.pointer (some ⟨b1, 0, none⟩), .pointer (some ⟨b2, 0, none⟩)] w fun e w' =>
      e = .returned (.tuple (if n1 ≤ n2 then #[.pointer (some ⟨b1, 0, none⟩), .pointer (some ⟨b2, 0, none⟩)] else #[.pointer (some ⟨b2, 0, none⟩), .pointer (some ⟨b1, 0, none⟩)])) ∧ ∃ k, w' = w.drewN k := by
  by_cases h : (n1 : Int) ≤ (n2 : Int)
  · have hd : n1 ≤ n2 := by omega
    rw [if_pos hd]
    clear hd
    go_enter Try.func67, Try.ntmps67
    go_wp2
    go_quiet (fail)
    go_wp2
    refine bodyPost_ret (v := .tuple #[.pointer (some ⟨b1, 0, none⟩), .pointer (some ⟨b2, 0, none⟩)]) (by simp [results, Try.results67, go_sem]) rfl ⟨rfl, nq, rfl⟩
  · have hd : ¬ n1 ≤ n2 := by omega
    rw [if_neg hd]
    clear hd
    go_enter Try.func67, Try.ntmps67
    go_wp2
    go_quiet (fail)
    go_wp2
    refine bodyPost_ret (v := .tuple #[.pointer (some ⟨b2, 0, none⟩), .pointer (some ⟨b1, 0, none⟩)]) (by simp [results, Try.results67, go_sem]) rfl ⟨rfl, nq, rfl⟩

end Go.Proofs.Ytiaghdnhapiioaa

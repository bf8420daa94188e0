/-
  The contracts of the reference's least and top: a set's bits up to the greatest one that is set; for sets of at most 20000 bits.
-/
import Derived.Test.YtafbdkcbgjpolaaDoorDo
namespace Go.Proofs.YtafbdkcbgjpolaaDoor
set_option linter.unusedSimpArgs false
set_option linter.unusedVariables false
set_option maxRecDepth 100000
open Go.RowKit


/-- One past the greatest place below n where f holds. -/
def lst (f : Nat → Bool) : Nat → Nat
  | 0 => 0
  | n + 1 => if f n then n + 1 else lst f n
theorem lst_le (f : Nat → Bool) (n : Nat) : lst f n ≤ n := by
  induction n with
  | zero => exact Nat.le_refl _
  | succ n ih => unfold lst; split <;> omega
theorem lst_out (f : Nat → Bool) (n j : Nat) (h1 : lst f n ≤ j) (h2 : j < n) : f j = false := by
  induction n with
  | zero => omega
  | succ n ih =>
    unfold lst at h1
    cases hf : f n with
    | true => rw [hf] at h1; simp at h1; omega
    | false =>
      rw [hf] at h1
      by_cases e : j = n
      · rw [e]; exact hf
      · exact ih (by simpa using h1) (by omega)
theorem lst_top (f : Nat → Bool) (n : Nat) (h : 0 < lst f n) : f (lst f n - 1) = true := by
  induction n with
  | zero => simp [lst] at h
  | succ n ih =>
    unfold lst at h ⊢
    cases hf : f n with
    | true => simpa using hf
    | false => rw [hf] at h; simp at h ⊢; exact ih h
theorem onL_ext (m n : Nat) (f g : Nat → Bool) (hmn : m ≤ n) (h1 : ∀ j, j < m → f j = g j) (h2 : ∀ j, m ≤ j → j < n → g j = false) : onL m f = onL n g := by
  induction n with
  | zero =>
    obtain rfl : m = 0 := by omega
    simp [onL]
  | succ n ih =>
    by_cases e : m = n + 1
    · subst e
      unfold onL
      exact List.filter_congr fun j hj => h1 j (List.mem_range.1 hj)
    · rw [onL_no (h2 n (by omega) (by omega))]
      exact ih (by omega) (fun j hj hj2 => h2 j hj (by omega))
theorem onL_lst (f : Nat → Bool) (n : Nat) : onL (lst f n) f = onL n f := onL_ext _ _ _ _ (lst_le f n) (fun _ _ => rfl) (lst_out f n)
/-- The bits of two sets whose lengths differ, alike where either has one. -/
theorem onL_both (m n : Nat) (f g : Nat → Bool) (h : ∀ j, (decide (j < m) && f j) = (decide (j < n) && g j)) : onL m f = onL n g := by
  by_cases hmn : m ≤ n
  · refine onL_ext m n f g hmn (fun j hj => ?_) (fun j hj hj2 => ?_)
    · have := h j; rw [show decide (j < m) = true by simpa using hj, show decide (j < n) = true by simp; omega] at this; simpa using this
    · have := h j; rw [show decide (j < m) = false by simpa using hj, show decide (j < n) = true by simp; omega] at this; simpa using this.symm
  · refine (onL_ext n m g f (by omega) (fun j hj => ?_) (fun j hj hj2 => ?_)).symm
    · have := h j; rw [show decide (j < m) = true by simp; omega, show decide (j < n) = true by simpa using hj] at this; simpa using this.symm
    · have := h j; rw [show decide (j < n) = false by simpa using hj, show decide (j < m) = true by simp; omega] at this; simpa using this

theorem box2A {wr : World} {R : Nat} {x y : Value} {T : TypeId} (h : wr.heap[R]? = some (.cells #[x, y] T (0, 0))) (u0 u1 : Value) (o : Obj) :
    (((wr.setCell ⟨R, 0, none⟩ u0).setCell ⟨R, 1, none⟩ u1).alloc o).cell? ⟨R, 0, none⟩ = some u0 ∧ (((wr.setCell ⟨R, 0, none⟩ u0).setCell ⟨R, 1, none⟩ u1).alloc o).cell? ⟨R, 1, none⟩ = some u1 := by
  have g := alloc_heap_old (setCell_heap_same (o := 1) (setCell_heap_same (o := 0) h u0) u1) o
  exact ⟨(cell_of_heap g).trans rfl, (cell_of_heap g).trans rfl⟩



end Go.Proofs.YtafbdkcbgjpolaaDoor

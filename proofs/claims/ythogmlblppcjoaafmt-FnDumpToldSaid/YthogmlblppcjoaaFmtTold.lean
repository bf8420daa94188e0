/-
  The contract of told, for sets of at most 20000 bits.
-/
import Derived.Test.YthogmlblppcjoaaFmtSet
namespace Go.Proofs.YthogmlblppcjoaaFmt
set_option linter.unusedSimpArgs false
set_option linter.unusedVariables false
open Go.RowKit

def onL (n : Nat) (f : Nat → Bool) : List Nat := (List.range n).filter f
def intsOf (l : List Nat) : List Value := l.map (fun (x : Nat) => Value.int .i64 (x : Int))
theorem onL_le (n : Nat) (f : Nat → Bool) : (onL n f).length ≤ n := by
  have := List.length_filter_le f (List.range n); rwa [List.length_range] at this
theorem onL_yes {k : Nat} {f : Nat → Bool} (h : f k = true) : onL (k + 1) f = onL k f ++ [k] := by simp [onL, List.range_succ, List.filter_append, h]
theorem onL_no {k : Nat} {f : Nat → Bool} (h : f k = false) : onL (k + 1) f = onL k f := by simp [onL, List.range_succ, List.filter_append, h]

/-- The loop of 'told'. -/
def ToldInv (w wr : World) (n k : Nat) (f : Nat → Bool) (v : Value) : Prop :=
  Kept [] w wr ∧ w.heap.size + 2 ≤ wr.heap.size ∧ wr.heap[w.heap.size]? = some (.cells #[.int .i64 0, .slice none 0 0] 24 (0, 0)) ∧ wr.heap[w.heap.size + 1]? = some (.cells #[.int .i64 n, v] 24 (0, 0)) ∧
  wr.ownsRow (w.heap.size + 2) 3 1 v (onL k f).length (intsOf (onL k f))

theorem ToldInv.start (w : World) (n : Nat) (f : Nat → Bool) : ToldInv w ((w.alloc (.cells #[.int .i64 0, .slice none 0 0] 24)).alloc (.cells #[.int .i64 n, .slice none 0 0] 24)) n 0 f (.slice none 0 0) := by
  refine ⟨((Kept.refl _ _).alloc _).alloc _, by simp, ?_, ?_, World.ownsRow_nil _ _ _ _⟩
  · exact (Below.heap_alloc _ _ _ (by simp)).trans (heap_alloc_new w _)
  · have := heap_alloc_new (w.alloc (.cells #[.int .i64 0, .slice none 0 0] 24)) (.cells #[.int .i64 n, .slice none 0 0] 24)
    simpa using this

/-- A number appended to the field of the result. -/
theorem ToldInv.step {w wr w1 : World} {n k : Nat} {f : Nat → Bool} {v v' : Value} {o : Obj} {q : Nat} (h : ToldInv w wr n k f v) (hf : f k = true)
    (hown : w1.ownsRow (w.heap.size + 2) 3 1 v' ((onL k f).length + 1) (intsOf (onL k f) ++ [.int .i64 k])) (hg : ((wr.drewN q).alloc o).grownBy w1 v.ownBlock) :
    ToldInv w (w1.setCell ⟨w.heap.size + 1, 1, none⟩ v') n (k + 1) f v' := by
  obtain ⟨h1, h2, h3, h4, h5⟩ := h
  have hne : ∀ j, j < w.heap.size + 2 → some j ≠ v.ownBlock := fun j hj e => by have := (h5.lt j e.symm).1; omega
  have k1 : Kept [] w w1 := ((h1.drewN q).alloc o).grown hg (fun j hj => by have := (h5.lt j hj).1; right; omega)
  have hs : wr.heap.size + 1 ≤ w1.heap.size := by have := hg.size; simpa using this
  have e3 : w1.heap[w.heap.size]? = some (.cells #[.int .i64 0, .slice none 0 0] 24 (0, 0)) := by
    rw [hg.block _ (by simp; omega) (hne _ (by omega)), Below.heap_alloc _ _ _ (by simp; omega)]; exact h3
  have e4 : w1.heap[w.heap.size + 1]? = some (.cells #[.int .i64 n, v] 24 (0, 0)) := by
    rw [hg.block _ (by simp; omega) (hne _ (by omega)), Below.heap_alloc _ _ _ (by simp; omega)]; exact h4
  refine ⟨k1.setCell (by right; simp) _, by simp [World.setCell]; omega, ?_, ?_, ?_⟩
  · rw [Below.heap_setCell _ _ _ _ (by simp)]; exact e3
  · simp only [World.setCell, Array.getElem?_modify, if_true, e4]
    simp
  · rw [onL_yes hf]
    have e : intsOf (onL k f ++ [k]) = intsOf (onL k f) ++ [.int .i64 k] := by simp [intsOf]
    rw [e, List.length_append]
    exact ownsRow_setCell_below hown (by show w.heap.size + 1 < w.heap.size + 2; omega) _

theorem ToldInv.skip {w wr : World} {n k q : Nat} {f : Nat → Bool} {v : Value} (h : ToldInv w wr n k f v) (hf : f k = false) : ToldInv w (wr.drewN q) n (k + 1) f v := by
  obtain ⟨h1, h2, h3, h4, h5⟩ := h
  refine ⟨h1.drewN q, h2, h3, h4, ?_⟩
  rw [onL_no hf]; exact h5

theorem slice_of_owns {w : World} {B : Nat} {e : TypeId} {z n : Nat} {v : Value} {xs : List Value} (h : w.ownsRow B e z v n xs) : ∃ ad ln cp, v = .slice ad ln cp := by
  rcases h.2 with ⟨rfl, _⟩ | ⟨g', cap', cur', rfl, _⟩
  · exact ⟨_, _, _, rfl⟩
  · exact ⟨_, _, _, rfl⟩

end Go.Proofs.YthogmlblppcjoaaFmt

/-
  The contract of told, for sets of at most 20000 bits.
-/
import Derived.Test.YtiaghdnhapiioaaSet
namespace Go.Proofs.Ytiaghdnhapiioaa
set_option linter.unusedSimpArgs false
set_option linter.unusedVariables false
open Go.RowKit

def onL (n : Nat) (f : Nat → Bool) : List Nat := (List.range n).filter f
def intsOf (l : List Nat) : List Value := l.map (fun (x : Nat) => Value.int .i64 (x : Int))
theorem onL_le (n : Nat) (f : Nat → Bool) : (onL n f).length ≤ n := by
  have := List.length_filter_le f (List.range n); rwa [List.length_range] at this
theorem onL_yes {k : Nat} {f : Nat → Bool} (h : f k = true) : onL (k + 1) f = onL k f ++ [k] := by simp [onL, List.range_succ, List.filter_append, h]
theorem onL_no {k : Nat} {f : Nat → Bool} (h : f k = false) : onL (k + 1) f = onL k f := by simp [onL, List.range_succ, List.filter_append, h]

/-- The loop of 'told'. -/
def ToldInv (w wr : World) (n k : Nat) (f : Nat → Bool) (v : Value) : Prop :=
  Kept [] w wr ∧ w.heap.size + 2 ≤ wr.heap.size ∧ wr.heap[w.heap.size]? = some (.cells #[.int .i64 0, .slice none 0 0] 24 (0, 0)) ∧ wr.heap[w.heap.size + 1]? = some (.cells #[.int .i64 n, v] 24 (0, 0)) ∧
  wr.ownsRow (w.heap.size + 2) 3 1 v (onL k f).length (intsOf (onL k f))

theorem ToldInv.start (w : World) (n : Nat) (f : Nat → Bool) : ToldInv w ((w.alloc (.cells #[.int .i64 0, .slice none 0 0] 24)).alloc (.cells #[.int .i64 n, .slice none 0 0] 24)) n 0 f (.slice none 0 0) := by
  refine ⟨((Kept.refl _ _).alloc _).alloc _, by simp, ?_, ?_, World.ownsRow_nil _ _ _ _⟩
  · exact (Below.heap_alloc _ _ _ (by simp)).trans (heap_alloc_new w _)
  · have := heap_alloc_new (w.alloc (.cells #[.int .i64 0, .slice none 0 0] 24)) (.cells #[.int .i64 n, .slice none 0 0] 24)
    simpa using this

/-- A number appended to the field of the result. -/
theorem ToldInv.step {w wr w1 : World} {n k : Nat} {f : Nat → Bool} {v v' : Value} {o : Obj} {q : Nat} (h : ToldInv w wr n k f v) (hf : f k = true)
    (hown : w1.ownsRow (w.heap.size + 2) 3 1 v' ((onL k f).length + 1) (intsOf (onL k f) ++ [.int .i64 k])) (hg : ((wr.drewN q).alloc o).grownBy w1 v.ownBlock) :
    ToldInv w (w1.setCell ⟨w.heap.size + 1, 1, none⟩ v') n (k + 1) f v' := by
  obtain ⟨h1, h2, h3, h4, h5⟩ := h
  have hne : ∀ j, j < w.heap.size + 2 → some j ≠ v.ownBlock := fun j hj e => by have := (h5.lt j e.symm).1; omega
  have k1 : Kept [] w w1 := ((h1.drewN q).alloc o).grown hg (fun j hj => by have := (h5.lt j hj).1; right; omega)
  have hs : wr.heap.size + 1 ≤ w1.heap.size := by have := hg.size; simpa using this
  have e3 : w1.heap[w.heap.size]? = some (.cells #[.int .i64 0, .slice none 0 0] 24 (0, 0)) := by
    rw [hg.block _ (by simp; omega) (hne _ (by omega)), Below.heap_alloc _ _ _ (by simp; omega)]; exact h3
  have e4 : w1.heap[w.heap.size + 1]? = some (.cells #[.int .i64 n, v] 24 (0, 0)) := by
    rw [hg.block _ (by simp; omega) (hne _ (by omega)), Below.heap_alloc _ _ _ (by simp; omega)]; exact h4
  refine ⟨k1.setCell (by right; simp) _, by simp [World.setCell]; omega, ?_, ?_, ?_⟩
  · rw [Below.heap_setCell _ _ _ _ (by simp)]; exact e3
  · simp only [World.setCell, Array.getElem?_modify, if_true, e4]
    simp
  · rw [onL_yes hf]
    have e : intsOf (onL k f ++ [k]) = intsOf (onL k f) ++ [.int .i64 k] := by simp [intsOf]
    rw [e, List.length_append]
    exact ownsRow_setCell_below hown (by show w.heap.size + 1 < w.heap.size + 2; omega) _

theorem ToldInv.skip {w wr : World} {n k q : Nat} {f : Nat → Bool} {v : Value} (h : ToldInv w wr n k f v) (hf : f k = false) : ToldInv w (wr.drewN q) n (k + 1) f v := by
  obtain ⟨h1, h2, h3, h4, h5⟩ := h
  refine ⟨h1.drewN q, h2, h3, h4, ?_⟩
  rw [onL_no hf]; exact h5

theorem slice_of_owns {w : World} {B : Nat} {e : TypeId} {z n : Nat} {v : Value} {xs : List Value} (h : w.ownsRow B e z v n xs) : ∃ ad ln cp, v = .slice ad ln cp := by
  rcases h.2 with ⟨rfl, _⟩ | ⟨g', cap', cur', rfl, _⟩
  · exact ⟨_, _, _, rfl⟩
  · exact ⟨_, _, _, rfl⟩

set_option maxHeartbeats 1000000 in
theorem told_c (b g n : Nat) (f : Nat → Bool) (w : World) (h : BSet w b g n f) (hn : n ≤ 20000) :
    Calls Try.prog 40 #[.pointer (some ⟨b, 0, none⟩)] w fun e w' => ∃ v, e = .returned (.agg #[.int .i64 n, v]) ∧ w'.ownsRow (w.heap.size + 2) 3 1 v (onL n f).length (intsOf (onL n f)) ∧ Kept [] w w' := by
  obtain ⟨i0, hi, hz0, hz1, hz2⟩ := info_parts Try.info3
  go_enter Try.func40, Try.ntmps40
  go_wp2_with (go_at_call 59; refine (len_c b g n f _ (by first | exact (h.alloc _).alloc _ | exact h.alloc _ | exact h)).mono ?_; rintro e w' ⟨rfl, rfl⟩)
  go_loopw [11] (fun i wr => ∃ (k : Nat) (v : Value), k ≤ n ∧ i = .int .u64 k ∧ ToldInv w wr n k f v) (fun i _ => n - (intOf i).toNat)
  case atStart => exact ⟨0, _, Nat.zero_le _, rfl, ToldInv.start w n f⟩
  case round =>
    obtain ⟨k, v, hk, rfl, hinv⟩ := hrel
    have hbs : BSet wr b g n f := h.kept hinv.1 (by simp) (by simp)
    have hR1 := hinv.2.2.2.1
    have hc1 : wr.cell? ⟨w.heap.size + 1, 1, none⟩ = some v := by rw [cell_of_heap hR1]; rfl
    have hf1 : wr.frozen? ⟨w.heap.size + 1, 1, none⟩ = false := free_of_heap hR1
    have hc0 : wr.cell? ⟨w.heap.size + 1, 0, none⟩ = some (.int .i64 n) := by rw [cell_of_heap hR1]; rfl
    clear hR1
    have hown := hinv.2.2.2.2
    have hle := onL_le k f
    have hsz := hinv.2.1
    by_cases hlt : k < n
    · cases hfk : f k with
      | true =>
        have hd : (decide (k < n) && f k) = true := by simp [hlt, hfk]
        go_wp2_with (first
          | (go_at_call 60; refine (test_c b g n k f _ hbs hn (by omega)).mono ?_; rintro e w' ⟨rfl, nq, rfl⟩; rw [hd])
          | (at_builtin; refine wpList_append_own _ rfl _ _ 22 rfl (w.heap.size + 2) 3 i0 (.int .i64 0) 1 8 Try.underlying22 hi hz0 hz1 hz2 rfl (by decide) _ _ _ rfl (World.ownsRow.alloc hown _) ⟨wr.heap.size, 0, none⟩ 1 1 [.int .i64 k] rfl rfl ?c1 ?c2 ?c3 ?c4 ?c5 ?_))
        case c1 => exact cell_one_new _ _ _
        case c2 => intro u hu; simp at hu; subst hu; rfl
        case c3 => unfold maxLen; omega
        case c4 => omega
        case c5 => simp; omega
        intro v' w1 hown' hgrow _
        have hne : some (w.heap.size + 1) ≠ v.ownBlock := fun e => by have := (hown.lt _ e.symm).1; omega
        have hc1' : w1.cell? ⟨w.heap.size + 1, 1, none⟩ = some v := hgrow.cell (a := ⟨w.heap.size + 1, 1, none⟩) ((World.cell?_alloc_past _ _ _ (by simp; omega)).trans hc1) hne
        have hf1' : w1.frozen? ⟨w.heap.size + 1, 1, none⟩ = false := by
          rw [World.frozen?_of_block (hgrow.block (w.heap.size + 1) (by simp; omega) hne), World.frozen?_alloc_past _ _ _ (by simp; omega)]; exact hf1
        have R := hinv.step hfk hown' hgrow
        obtain ⟨g', cap', rfl⟩ : ∃ g' cap', v' = .slice (some ⟨g', 0, none⟩) ((onL k f).length + 1) cap' := by
          rcases hown'.2 with ⟨_, h0⟩ | ⟨g', cap', cur', h, _⟩
          · omega
          · exact ⟨g', cap', h⟩
        clear hown' hgrow hown hc1 hf1 hc0
        go_wp2
        go_roundw
        case rel => exact ⟨k + 1, _, by omega, by go_num, R⟩
        case measure => simp [intOf]; omega
      | false =>
        have hd : (decide (k < n) && f k) = false := by simp [hfk]
        go_wp2_with (go_at_call 60; refine (test_c b g n k f _ hbs hn (by omega)).mono ?_; rintro e w' ⟨rfl, nq, rfl⟩; rw [hd])
        go_roundw
        case rel => exact ⟨k + 1, _, by omega, by go_num, hinv.skip hfk⟩
        case measure => simp [intOf]; omega
    · have hkn : k = n := by omega
      subst hkn
      have hR0 := hinv.2.2.1
      have hr0 : wr.cell? ⟨w.heap.size, 0, none⟩ = some (.int .i64 0) := by rw [cell_of_heap hR0]; rfl
      have hr1 : wr.cell? ⟨w.heap.size, 1, none⟩ = some (.slice none 0 0) := by rw [cell_of_heap hR0]; rfl
      have hz0' : wr.frozen? ⟨w.heap.size, 0, none⟩ = false := free_of_heap hR0
      have hz1' : wr.frozen? ⟨w.heap.size, 1, none⟩ = false := free_of_heap hR0
      clear hR0
      have hkp := hinv.1
      obtain ⟨ad, ln, cp, rfl⟩ := slice_of_owns hown
      clear hinv
      have q1 : ((wr.setCell ⟨w.heap.size, 0, none⟩ (.int .i64 k)).setCell ⟨w.heap.size, 1, none⟩ (.slice ad ln cp)).cell? ⟨w.heap.size, 1, none⟩ = some (.slice ad ln cp) :=
        World.cell?_setCell_same _ _ _ ((World.cell?_setCell_other _ _ _ _ (by simp)).trans hr1)
      have q0 : ((wr.setCell ⟨w.heap.size, 0, none⟩ (.int .i64 k)).setCell ⟨w.heap.size, 1, none⟩ (.slice ad ln cp)).cell? ⟨w.heap.size, 0, none⟩ = some (.int .i64 k) :=
        (World.cell?_setCell_other _ _ _ _ (by simp)).trans (World.cell?_setCell_same _ _ _ hr0)
      go_wp2
      refine bodyPost_ret (v := .agg #[.int .i64 k, .slice ad ln cp]) (by simp [results, Try.results40, go_sem, q0, q1]) rfl ⟨_, rfl, ?_, ?_⟩
      · exact ownsRow_setCell_below (ownsRow_setCell_below hown (by show w.heap.size < w.heap.size + 2; omega) _) (by show w.heap.size < w.heap.size + 2; omega) _
      · exact (hkp.setCell (by right; simp) _).setCell (by right; simp) _
end Go.Proofs.Ytiaghdnhapiioaa

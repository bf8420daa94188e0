/-
  Rows of numbers of type uint. Under no condition.
-/
import Derived.Test.YtafbdkcbgjpolaaDoorOwn
namespace Go.Proofs.YtafbdkcbgjpolaaDoor
set_option linter.unusedSimpArgs false
set_option linter.unusedVariables false
set_option maxRecDepth 100000
open Go.RowKit

def VRow (w : World) (g : Nat) (ws : List Nat) (cap : Nat) : Prop :=
  ∃ cur : Array Value, w.heap[g]? = some (.cells cur 48 (0, 0)) ∧ cur.size = cap ∧ ws.length ≤ cap ∧ cur.toList.take ws.length = u64s ws
theorem VRow.lt {w : World} {g cap : Nat} {ws : List Nat} (h : VRow w g ws cap) : g < w.heap.size := by obtain ⟨_, h1, _⟩ := h; exact lt_of_heap h1
theorem VRow.le {w : World} {g cap : Nat} {ws : List Nat} (h : VRow w g ws cap) : ws.length ≤ cap := by obtain ⟨_, _, _, h, _⟩ := h; exact h
theorem VRow.cell {w : World} {g cap : Nat} {ws : List Nat} (h : VRow w g ws cap) (j : Nat) (hj : j < ws.length) : w.cell? ⟨g, j, none⟩ = some (.int .u64 (ws.getD j 0 : Nat)) := by
  obtain ⟨cur, hg, hs, hl, ht⟩ := h
  rw [cell_of_heap hg]
  have h1 : cur.toList[j]? = (cur.toList.take ws.length)[j]? := by rw [List.getElem?_take_of_lt hj]
  rw [← Array.getElem?_toList, h1, ht]
  simp [u64s, hj]
theorem VRow.any {w : World} {g cap : Nat} {ws : List Nat} (h : VRow w g ws cap) (j : Nat) (hj : j < cap) : ∃ u, w.cell? ⟨g, j, none⟩ = some u := by
  obtain ⟨cur, hg, hs, hl, ht⟩ := h
  rw [cell_of_heap hg]
  exact ⟨cur[j]'(by omega), by simp [hs, hj]⟩
theorem VRow.free {w : World} {g cap : Nat} {ws : List Nat} (h : VRow w g ws cap) (j : Nat) : w.frozen? ⟨g, j, none⟩ = false := by
  obtain ⟨cur, hg, _⟩ := h; exact free_of_heap hg
theorem VRow.kept {S : List Nat} {w w' : World} {g cap : Nat} {ws : List Nat} (h : VRow w g ws cap) (k : Kept S w w') (hg : g ∉ S) : VRow w' g ws cap := by
  obtain ⟨cur, h1, r⟩ := h; exact ⟨cur, k.heap hg h1, r⟩
theorem VRow.other {w : World} {g cap b o : Nat} {ws : List Nat} (h : VRow w g ws cap) (hb : g ≠ b) (v : Value) : VRow (w.setCell ⟨b, o, none⟩ v) g ws cap := by
  obtain ⟨cur, h1, r⟩ := h; exact ⟨cur, setCell_heap_other h1 hb v, r⟩
theorem VRow.alloc {w : World} {g cap : Nat} {ws : List Nat} (h : VRow w g ws cap) (o : Obj) : VRow (w.alloc o) g ws cap := by
  obtain ⟨cur, h1, r⟩ := h; exact ⟨cur, alloc_heap_old h1 o, r⟩
theorem VRow.drewN {w : World} {g cap : Nat} {ws : List Nat} (h : VRow w g ws cap) (n : Nat) : VRow (w.drewN n) g ws cap := h
theorem VRow.set {w : World} {g cap : Nat} {ws : List Nat} (h : VRow w g ws cap) (k x : Nat) : VRow (w.setCell ⟨g, k, none⟩ (.int .u64 (x : Int))) g (ws.set k x) cap := by
  obtain ⟨cur, h1, h2, h3, h4⟩ := h
  refine ⟨_, setCell_heap_same h1 _, by simpa using h2, by simpa using h3, ?_⟩
  rw [Array.toList_setIfInBounds, take_set_eq, List.length_set, h4]
  simp [u64s, List.map_set]
theorem VRow.push {w : World} {g cap : Nat} {ws : List Nat} (h : VRow w g ws cap) (x : Nat) (hk : ws.length < cap) : VRow (w.setCell ⟨g, ws.length, none⟩ (.int .u64 (x : Int))) g (ws ++ [x]) cap := by
  obtain ⟨cur, h1, h2, h3, h4⟩ := h
  refine ⟨_, setCell_heap_same h1 _, by simpa using h2, by simp; omega, ?_⟩
  rw [Array.toList_setIfInBounds, List.length_append, List.length_singleton, List.take_add_one, take_set_eq, h4, u64s_append, List.set_eq_of_length_le (by simp [u64s])]
  have : ws.length < cur.toList.length := by simpa [h2] using hk
  rw [List.getElem?_set, if_pos rfl, if_pos this]
  rfl
theorem VRow.take {w : World} {g cap : Nat} {ws : List Nat} (h : VRow w g ws cap) (k : Nat) : VRow w g (ws.take k) cap := by
  obtain ⟨cur, h1, h2, h3, h4⟩ := h
  refine ⟨cur, h1, h2, by simp; omega, ?_⟩
  rw [List.length_take, ← List.take_take, h4]
  simp [u64s, ← List.map_take]
theorem VRow.new (w : World) (m c : Nat) (h : m ≤ c) : VRow (w.alloc (.cells (zrow (.int .u64 0) c) 48)) w.heap.size (List.replicate m 0) c := by
  refine ⟨zrow (.int .u64 0) c, heap_alloc_new w _, by simp [zrow], by simpa using h, ?_⟩
  simp [zrow, u64s, Nat.min_eq_left h]


theorem and_pred (X k m : Nat) (hX : X = 2 ^ k * (2 * m + 1)) (t : Nat) : (X &&& (X - 1)).testBit t = (X.testBit t && !(t == k)) := by
  have h1 : X = 2 ^ (k + 1) * m + 2 ^ k := by rw [hX, Nat.pow_succ, Nat.mul_add, Nat.mul_one, Nat.mul_assoc]
  have hp : 0 < 2 ^ k := Nat.two_pow_pos k
  have h2 : X - 1 = 2 ^ (k + 1) * m + (2 ^ k - 1) := by omega
  have b1 : 2 ^ k < 2 ^ (k + 1) := by rw [Nat.pow_succ]; omega
  have b2 : 2 ^ k - 1 < 2 ^ (k + 1) := by omega
  rw [Nat.testBit_and, h2, h1, Nat.testBit_two_pow_mul_add _ b1, Nat.testBit_two_pow_mul_add _ b2]
  by_cases c : t < k + 1
  · rw [if_pos c, if_pos c, Nat.testBit_two_pow, Nat.testBit_two_pow_sub_one]
    by_cases e : t = k
    · subst e; simp
    · have : t < k := by omega
      rw [decide_eq_false (show ¬ k = t by omega)]; simp
  · rw [if_neg c, if_neg c, beq_eq_false_iff_ne.2 (show t ≠ k by omega)]; simp
/-- The lowest bit of a word struck. -/
theorem strike (X : Nat) (hX : X < 2 ^ 64) (h0 : X ≠ 0) (t : Nat) : (X &&& (X - 1)).testBit t = (X.testBit t && !(t == Lib.ctz 64 X)) := by
  obtain ⟨m, hm, hk⟩ := Lib.ctzFrom_spec 64 X (by omega) hX
  have e : Lib.ctz 64 X = Lib.ctzFrom 64 X := by simp [Lib.ctz, h0]
  rw [e]
  exact and_pred X _ m hm t
theorem strike_lt (X : Nat) (hX : X < 2 ^ 64) : X &&& (X - 1) < 2 ^ 64 := Nat.lt_of_le_of_lt Nat.and_le_left hX
theorem strike_int (X : Nat) (hX : X < 2 ^ 64) (h0 : X ≠ 0) : bits .and .u64 (X : Int) ((X : Int) - 1) = ((X &&& (X - 1) : Nat) : Int) := by
  rw [show (X : Int) - 1 = ((X - 1 : Nat) : Int) by omega]
  exact bits_and_nat _ _ hX (by omega)
theorem onL_mono (f : Nat → Bool) (a b : Nat) (h : a ≤ b) : (onL a f).length ≤ (onL b f).length := by
  induction b with
  | zero => obtain rfl : a = 0 := by omega
            exact Nat.le_refl _
  | succ b ih =>
    by_cases e : a = b + 1
    · subst e; exact Nat.le_refl _
    · refine Nat.le_trans (ih (by omega)) ?_
      cases hb : f b with
      | true => rw [onL_yes hb, List.length_append]; exact Nat.le_add_right _ _
      | false => rw [onL_no hb]; exact Nat.le_refl _
/-- A word of which the bits below place p are struck. -/
def WordAt (ff : Nat → Bool) (x p Y : Nat) : Prop := Y < 2 ^ 64 ∧ 64 * x ≤ p ∧ p ≤ 64 * x + 64 ∧ ∀ t, t < 64 → Y.testBit t = (decide (p ≤ 64 * x + t) && ff (64 * x + t))
theorem WordAt.start {ws : List Nat} {n : Nat} {f : Nat → Bool} (h : WordsOk ws n f) (x : Nat) : WordAt (fun j => decide (j < n) && f j) x (64 * x) (ws.getD x 0) :=
  ⟨h.word x, Nat.le_refl _, by omega, fun t ht => by rw [h.testAt x t ht, decide_eq_true (show 64 * x ≤ 64 * x + t by omega), Bool.true_and]⟩
theorem WordAt.zero {ff : Nat → Bool} {x p Y : Nat} (h : WordAt ff x p Y) (h0 : Y = 0) : onL (64 * (x + 1)) ff = onL p ff := by
  obtain ⟨_, h1, h2, h3⟩ := h
  refine (onL_ext p (64 * (x + 1)) ff ff (by omega) (fun _ _ => rfl) fun j h4 h5 => ?_).symm
  have := h3 (j - 64 * x) (by omega)
  rw [h0, Nat.zero_testBit, show 64 * x + (j - 64 * x) = j by omega, decide_eq_true h4, Bool.true_and] at this
  exact this.symm
theorem WordAt.next {ff : Nat → Bool} {x p Y : Nat} (h : WordAt ff x p Y) (h0 : Y ≠ 0) : Lib.ctz 64 Y < 64 ∧ p ≤ 64 * x + Lib.ctz 64 Y ∧ onL (64 * x + Lib.ctz 64 Y + 1) ff = onL p ff ++ [64 * x + Lib.ctz 64 Y] ∧ WordAt ff x (64 * x + Lib.ctz 64 Y + 1) (Y &&& (Y - 1)) := by
  obtain ⟨hY, h1, h2, h3⟩ := h
  obtain ⟨k1, k2, k3⟩ := ctz_bits Y hY h0
  have hst := strike Y hY h0
  generalize Lib.ctz 64 Y = c at *
  have hc := h3 c k1
  rw [k2] at hc
  obtain ⟨g1, g2⟩ := Bool.and_eq_true_iff.1 hc.symm
  have g1 := of_decide_eq_true g1
  refine ⟨k1, g1, ?_, strike_lt Y hY, by omega, by omega, fun t ht => ?_⟩
  · rw [onL_yes g2]
    congr 1
    refine (onL_ext p (64 * x + c) ff ff g1 (fun _ _ => rfl) fun j h4 h5 => ?_).symm
    have := h3 (j - 64 * x) (by omega)
    rw [k3 _ (by omega), show 64 * x + (j - 64 * x) = j by omega, decide_eq_true h4, Bool.true_and] at this
    exact this.symm
  · rw [hst t, h3 t ht]
    by_cases e : t = c
    · subst e; rw [decide_eq_false (show ¬ 64 * x + t + 1 ≤ 64 * x + t by omega)]; simp
    · rw [beq_eq_false_iff_ne.2 e]
      by_cases h4 : 64 * x + c + 1 ≤ 64 * x + t
      · rw [decide_eq_true h4, decide_eq_true (show p ≤ 64 * x + t by omega)]; simp
      · rw [decide_eq_false h4]
        have h5 := h3 t ht
        rw [k3 t (by omega)] at h5
        rw [← h5]; rfl

end Go.Proofs.YtafbdkcbgjpolaaDoor

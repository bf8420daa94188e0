/-
  Counting those of a list that pass, one by one; and counting the bits of a word's part. Under no condition.
-/
import Derived.Test.YtpkojfcenhieeaaCntB
namespace Go.Proofs.Ytpkojfcenhieeaa
set_option linter.unusedSimpArgs false
set_option linter.unusedVariables false
open Go.RowKit

/-- How many of the first k pass. -/
def cntP (p : Nat → Bool) (l : List Nat) (k : Nat) : Nat := ((l.take k).filter p).length
theorem cntP_le (p : Nat → Bool) (l : List Nat) (k : Nat) : cntP p l k ≤ k := by
  have h1 := List.length_filter_le p (l.take k)
  have h2 : (l.take k).length ≤ k := by rw [List.length_take]; exact Nat.min_le_left _ _
  unfold cntP; omega
theorem cntP_yes {p : Nat → Bool} {l : List Nat} {k : Nat} (hk : k < l.length) (h : p (l.getD k 0) = true) : cntP p l (k + 1) = cntP p l k + 1 := by
  rw [getD_in _ _ _ hk] at h
  unfold cntP
  rw [List.take_succ_eq_append_getElem hk, List.filter_append, List.length_append]
  simp [h]
theorem cntP_no {p : Nat → Bool} {l : List Nat} {k : Nat} (hk : k < l.length) (h : p (l.getD k 0) = false) : cntP p l (k + 1) = cntP p l k := by
  rw [getD_in _ _ _ hk] at h
  unfold cntP
  rw [List.take_succ_eq_append_getElem hk, List.filter_append, List.length_append]
  simp [h]
theorem cntP_all (p : Nat → Bool) (l : List Nat) : cntP p l l.length = (l.filter p).length := by unfold cntP; rw [List.take_length]
theorem filter_onL (p f : Nat → Bool) (n m : Nat) (hm : m ≤ n) (g : Nat → Bool) (h1 : ∀ j, j < m → (f j && p j) = g j) (h2 : ∀ j, m ≤ j → j < n → (f j && p j) = false) : (onL n f).filter p = onL m g := by
  have e : (onL n f).filter p = onL n (fun j => f j && p j) := by unfold onL; rw [List.filter_filter]; exact List.filter_congr fun j _ => by cases p j <;> cases f j <;> rfl
  rw [e]
  exact (onL_ext m n g _ hm (fun j hj => (h1 j hj).symm) h2).symm
theorem onL_none (n : Nat) (f : Nat → Bool) (h : ∀ j, j < n → f j = false) : onL n f = [] := by
  unfold onL
  exact List.filter_eq_nil_iff.2 fun j hj => by rw [h j (List.mem_range.1 hj)]; exact Bool.false_ne_true
/-- A word whose bits are told up to e. -/
theorem pop_part (x e : Nat) (G : Nat → Bool) (he : e ≤ 64) (h : ∀ t, t < 64 → x.testBit t = (decide (t < e) && G t)) : pop x = (onL e G).length := by
  unfold pop
  rw [onL_ext e 64 G x.testBit he (fun j hj => by rw [h j (by omega), decide_eq_true hj]; rfl) (fun j h1 h2 => by rw [h j h2, decide_eq_false (by omega)]; rfl)]

end Go.Proofs.Ytpkojfcenhieeaa

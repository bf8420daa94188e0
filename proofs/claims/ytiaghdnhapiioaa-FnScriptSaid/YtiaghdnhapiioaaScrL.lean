/-
  What a script does by the reference, step by step; how the package's set stands to the reference's. Under no condition.
-/
import Derived.Test.YtiaghdnhapiioaaRngL
import Derived.Test.YtiaghdnhapiioaaKdF
namespace Go.Proofs.Ytiaghdnhapiioaa
set_option linter.unusedSimpArgs false
set_option linter.unusedVariables false
open Go.RowKit


/-- A set by the reference: its length, its bits, whether the length is told. -/
structure Ref where
  n : Nat
  f : Nat → Bool
  t : Bool
/-- A step of the reference at numbers in reach; none: not told. -/
def doN (o i k n : Nat) (f : Nat → Bool) (t : Bool) : Option Ref :=
  match o with
  | 0 => some ⟨max n (i + 1), fun j => (j == i) || (decide (j < n) && f j), t⟩
  | 1 => some ⟨n, fun j => !(j == i) && f j, t⟩
  | 2 => some ⟨max n (i + 1), fun j => (j == i) ^^ (decide (j < n) && f j), t⟩
  | 3 => if k = 0 then (if i < n then some ⟨n, fun j => !(j == i) && f j, t⟩ else some ⟨lst (fun j => if j = i then false else (decide (j < n) && f j)) (max n (i + 1)), fun j => if j = i then false else (decide (j < n) && f j), false⟩) else some ⟨max n (i + 1), fun j => (j == i) || (decide (j < n) && f j), t⟩
  | 4 => if k ≤ i then none else if k ≤ n then some ⟨n, rngF true n f i k, t⟩ else some ⟨lst (rngF true n f i k) k, rngF true n f i k, false⟩
  | 5 => if k ≤ i then none else if k ≤ n then some ⟨n, rngF false n f i k, t⟩ else some ⟨lst (rngF false n f i k) k, rngF false n f i k, false⟩
  | 6 => if 0 < lst f n ∧ (lst f n - 1 + i) % 64 = 0 then none else some ⟨lst (fun j => fAt n f ((j : Int) - (i : Int))) (n + i), fun j => fAt n f ((j : Int) - (i : Int)), false⟩
  | 7 => if 0 < lst f n ∧ lst f n ≤ i + 1 then none else some ⟨lst (fun j => fAt n f ((j : Int) + (i : Int))) (n), fun j => fAt n f ((j : Int) + (i : Int)), false⟩
  | 8 => if n ≤ i then none else some ⟨lst (fun j => (decide (j < i) && fAt n f j) || (decide (i < j) && fAt n f ((j : Int) - 1))) (n + 1), fun j => (decide (j < i) && fAt n f j) || (decide (i < j) && fAt n f ((j : Int) - 1)), false⟩
  | 9 => if n ≤ i then none else some ⟨lst (fun j => (decide (j < i) && fAt n f j) || (decide (i ≤ j) && fAt n f ((j : Int) + 1))) (n), fun j => (decide (j < i) && fAt n f j) || (decide (i ≤ j) && fAt n f ((j : Int) + 1)), false⟩
  | 10 => some ⟨n, fun _ => false, t⟩
  | 11 => if t = true then some ⟨n, fun _ => true, true⟩ else none
  | 12 => some ⟨lst (fun i => decide (i < n) && f i) (n), fun i => decide (i < n) && f i, false⟩
  | 13 => if n ≤ i then none else some ⟨i + 1, f, true⟩
  | _ => none
/-- A step of the reference. -/
def doS (op A B : Int) (r : Ref) : Option Ref :=
  if A < 0 ∨ B < 0 ∨ 2500 < A ∨ 2500 < B ∨ 6000 < (r.n : Int) ∨ op < 0 then none else doN op.toNat A.toNat B.toNat r.n r.f r.t
/-- Steps one behind the other. -/
def runS (r : Ref) : List (Int × Int × Int) → Option Ref
  | [] => some r
  | x :: xs => match doS x.1 x.2.1 x.2.2 r with
    | none => none
    | some r' => runS r' xs
theorem runS_snoc (r : Ref) (l : List (Int × Int × Int)) (x : Int × Int × Int) : runS r (l ++ [x]) = match runS r l with
    | none => none
    | some r' => doS x.1 x.2.1 x.2.2 r' := by
  induction l generalizing r with
  | nil => simp only [List.nil_append, runS]; cases doS x.1 x.2.1 x.2.2 r <;> rfl
  | cons y l ih =>
    simp only [List.cons_append, runS]
    cases doS y.1 y.2.1 y.2.2 r with
    | none => rfl
    | some r' => exact ih r'
theorem take_snoc {α : Type} (l : List α) (d : α) (i : Nat) (h : i < l.length) : l.take (i + 1) = l.take i ++ [l.getD i d] := by
  rw [List.getD_eq_getElem?_getD, List.getElem?_eq_getElem h, Option.getD_some]; exact (List.take_append_getElem h).symm
theorem runS_take (r rf : Ref) (l : List (Int × Int × Int)) (h : runS r l = some rf) (i : Nat) (hi : i ≤ l.length) : ∃ ri, runS r (l.take i) = some ri := by
  induction l generalizing r i with
  | nil => exact ⟨r, by simp [runS]⟩
  | cons y l ih =>
    cases i with
    | zero => exact ⟨r, rfl⟩
    | succ i =>
      simp only [runS] at h
      simp only [List.take_succ_cons, runS]
      cases hd : doS y.1 y.2.1 y.2.2 r with
      | none => rw [hd] at h; cases h
      | some r' => rw [hd] at h; exact ih r' h i (by simpa using hi)
theorem doS_some {op A B : Int} {r r' : Ref} (h : doS op A B r = some r') : ∃ o i k : Nat, op = o ∧ A = i ∧ B = k ∧ o ≤ 13 ∧ i ≤ 2500 ∧ k ≤ 2500 ∧ r.n ≤ 6000 ∧ doN o i k r.n r.f r.t = some r' := by
  unfold doS at h
  split at h
  · cases h
  · rename_i hn
    refine ⟨op.toNat, A.toNat, B.toNat, by omega, by omega, by omega, ?_, by omega, by omega, by omega, h⟩
    by_cases h13 : op.toNat ≤ 13
    · exact h13
    · obtain ⟨q, hq⟩ : ∃ q, op.toNat = q + 14 := ⟨op.toNat - 14, by omega⟩
      rw [hq] at h
      unfold doN at h
      split at h <;> first | omega | cases h
/-- How the package's set stands to the reference's. -/
structure Rel (r : Ref) (L : Nat) (F : Nat → Bool) : Prop where
  le : r.n ≤ L
  told : r.t = true → r.n = L
  bits : ∀ j, (decide (j < L) && F j) = (decide (j < r.n) && r.f j)
theorem dec_and {p : Prop} [Decidable p] {b : Bool} (h : b = true → p) : (decide p && b) = b := by
  cases b with
  | false => exact Bool.and_false _
  | true => rw [decide_eq_true (h rfl)]; rfl
theorem lst_bound (f : Nat → Bool) (N K : Nat) (h : ∀ j, K ≤ j → j < N → f j = false) : lst f N ≤ K := by
  by_cases h0 : 0 < lst f N
  · have h1 := lst_top f N h0
    have h2 := lst_le f N
    by_cases h3 : lst f N ≤ K
    · exact h3
    · rw [h _ (by omega) (by omega)] at h1; cases h1
  · omega
theorem rel_least {N L' : Nat} {FF F' : Nat → Bool} (h : ∀ j, (decide (j < L') && F' j) = (decide (j < N) && FF j)) : Rel ⟨lst FF N, FF, false⟩ L' F' := by
  refine ⟨lst_bound _ _ _ (fun j h1 h2 => ?_), (fun h => by cases h), (fun j => ?_)⟩
  · have := h j
    rw [decide_eq_false (show ¬ j < L' by omega), decide_eq_true h2, Bool.false_and, Bool.true_and] at this
    exact this.symm
  · rw [h j]
    have h3 := lst_le FF N
    by_cases h1 : j < lst FF N
    · show _ = (decide (j < lst FF N) && FF j)
      rw [decide_eq_true h1, decide_eq_true (show j < N by omega)]
    · show _ = (decide (j < lst FF N) && FF j)
      rw [decide_eq_false h1, Bool.false_and]
      by_cases h2 : j < N
      · rw [lst_out FF N j (by omega) h2, Bool.and_false]
      · rw [decide_eq_false h2, Bool.false_and]
theorem and_lt {j n : Nat} {b : Bool} (h : (decide (j < n) && b) = true) : j < n := of_decide_eq_true (Bool.and_eq_true_iff.1 h).1
section
variable {n L : Nat} {f F : Nat → Bool} {t : Bool}
theorem Rel.lst_le (h : Rel ⟨n, f, t⟩ L F) : lst F L ≤ n := lst_bound _ _ _ fun j h1 h2 => by
  have := h.bits j
  rw [decide_eq_true h2, Bool.true_and] at this
  rw [this]
  exact (by rw [decide_eq_false (show ¬ j < n by omega), Bool.false_and] : (decide (j < n) && f j) = false)
theorem Rel.bit (h : Rel ⟨n, f, t⟩ L F) {j : Nat} (hj : j < n) : F j = f j := by
  have h1 := h.bits j
  have h2 : n ≤ L := h.le
  rw [decide_eq_true (show j < L by omega), Bool.true_and] at h1
  rw [h1]
  show (decide (j < n) && f j) = f j
  rw [decide_eq_true hj, Bool.true_and]
theorem rel0 (h : Rel ⟨n, f, t⟩ L F) (i : Nat) : Rel ⟨max n (i + 1), fun j => (j == i) || (decide (j < n) && f j), t⟩ (max L (i + 1)) (fun j => (j == i) || (decide (j < L) && F j)) := by
  have hle : n ≤ L := h.le
  refine ⟨by show max n (i + 1) ≤ max L (i + 1); omega, fun ht => by have : n = L := h.told ht; show max n (i + 1) = max L (i + 1); rw [this], fun j => ?_⟩
  show (decide (j < max L (i + 1)) && ((j == i) || (decide (j < L) && F j))) = (decide (j < max n (i + 1)) && ((j == i) || (decide (j < n) && f j)))
  rw [h.bits j]
  show (decide (j < max L (i + 1)) && ((j == i) || (decide (j < n) && f j))) = _
  have hx : ((j == i) || (decide (j < n) && f j)) = true → j = i ∨ j < n := fun hh => by
    rcases Bool.or_eq_true_iff.1 hh with h1 | h1
    · exact .inl (eq_of_beq h1)
    · exact .inr (and_lt h1)
  rw [dec_and (p := j < max L (i + 1)) (fun hh => by have := hx hh; omega), dec_and (p := j < max n (i + 1)) (fun hh => by have := hx hh; omega)]
theorem rel1 (h : Rel ⟨n, f, t⟩ L F) (i : Nat) : Rel ⟨n, fun j => !(j == i) && f j, t⟩ L (fun j => !(j == i) && F j) := by
  refine ⟨h.le, h.told, fun j => ?_⟩
  show (decide (j < L) && (!(j == i) && F j)) = (decide (j < n) && (!(j == i) && f j))
  have hb : (decide (j < L) && F j) = (decide (j < n) && f j) := h.bits j
  rw [Bool.and_left_comm, hb, Bool.and_left_comm]
theorem rel2 (h : Rel ⟨n, f, t⟩ L F) (i : Nat) : Rel ⟨max n (i + 1), fun j => (j == i) ^^ (decide (j < n) && f j), t⟩ (max L (i + 1)) (fun j => (j == i) ^^ (decide (j < L) && F j)) := by
  have hle : n ≤ L := h.le
  refine ⟨by show max n (i + 1) ≤ max L (i + 1); omega, fun ht => by have : n = L := h.told ht; show max n (i + 1) = max L (i + 1); rw [this], fun j => ?_⟩
  show (decide (j < max L (i + 1)) && ((j == i) ^^ (decide (j < L) && F j))) = (decide (j < max n (i + 1)) && ((j == i) ^^ (decide (j < n) && f j)))
  have hb : (decide (j < L) && F j) = (decide (j < n) && f j) := h.bits j
  rw [hb]
  have hx : ((j == i) ^^ (decide (j < n) && f j)) = true → j = i ∨ j < n := fun hh => by
    by_cases h1 : j = i
    · exact .inl h1
    · rw [beq_eq_false_iff_ne.2 h1, Bool.false_xor] at hh
      exact .inr (and_lt hh)
  rw [dec_and (p := j < max L (i + 1)) (fun hh => by have := hx hh; omega), dec_and (p := j < max n (i + 1)) (fun hh => by have := hx hh; omega)]
theorem rel3u (h : Rel ⟨n, f, t⟩ L F) (i : Nat) (hi : n ≤ i) : Rel ⟨lst (fun j => if j = i then false else (decide (j < n) && f j)) (max n (i + 1)), fun j => if j = i then false else (decide (j < n) && f j), false⟩ L (fun j => !(j == i) && F j) := rel_least fun j => by
  have hb : (decide (j < L) && F j) = (decide (j < n) && f j) := h.bits j
  rw [Bool.and_left_comm, hb]
  by_cases h1 : j = i
  · rw [if_pos h1, Bool.and_false, beq_iff_eq.2 h1]; rfl
  · rw [if_neg h1, beq_eq_false_iff_ne.2 h1]
    rw [dec_and (p := j < max n (i + 1)) (b := decide (j < n) && f j) (fun hh => by have := and_lt hh; omega)]; rfl
theorem rngN_told (h : Rel ⟨n, f, t⟩ L F) (i k : Nat) (hik : i < k) (hk : k ≤ n) : rngN L i k = L := rngN_in hik (by have : n ≤ L := h.le; omega)
theorem rel4 (h : Rel ⟨n, f, t⟩ L F) (i k : Nat) (hik : i < k) (hk : k ≤ n) : Rel ⟨n, rngF true n f i k, t⟩ (rngN L i k) (fun j => (decide (i ≤ j) && decide (j < k)) || (decide (j < L) && F j)) := by
  have hle : n ≤ L := h.le
  rw [rngN_told h i k hik hk]
  refine ⟨h.le, h.told, fun j => ?_⟩
  show (decide (j < L) && _) = (decide (j < n) && rngF true n f i k j)
  have hb : (decide (j < L) && F j) = (decide (j < n) && f j) := h.bits j
  rw [rngF_set n f i k j hik, hb]
  have hx : ((decide (i ≤ j) && decide (j < k)) || (decide (j < n) && f j)) = true → j < n := fun hh => by
    rcases Bool.or_eq_true_iff.1 hh with h1 | h1
    · have := of_decide_eq_true (Bool.and_eq_true_iff.1 h1).2; omega
    · exact and_lt h1
  rw [dec_and (p := j < L) (fun hh => by have := hx hh; omega), dec_and (p := j < n) hx]
theorem rel5 (h : Rel ⟨n, f, t⟩ L F) (i k : Nat) (hik : i < k) (hk : k ≤ n) : Rel ⟨n, rngF false n f i k, t⟩ (rngN L i k) (fun j => (decide (i ≤ j) && decide (j < k)) ^^ (decide (j < L) && F j)) := by
  have hle : n ≤ L := h.le
  rw [rngN_told h i k hik hk]
  refine ⟨h.le, h.told, fun j => ?_⟩
  show (decide (j < L) && _) = (decide (j < n) && rngF false n f i k j)
  have hb : (decide (j < L) && F j) = (decide (j < n) && f j) := h.bits j
  rw [rngF_flip n f i k j hik, hb]
  have hx : ((decide (i ≤ j) && decide (j < k)) ^^ (decide (j < n) && f j)) = true → j < n := fun hh => by
    by_cases h1 : j < n
    · exact h1
    · rw [decide_eq_false h1, Bool.false_and, Bool.xor_false] at hh
      have := of_decide_eq_true (Bool.and_eq_true_iff.1 hh).2; omega
  rw [dec_and (p := j < L) (fun hh => by have := hx hh; omega), dec_and (p := j < n) hx]
theorem rel4x (h : Rel ⟨n, f, t⟩ L F) (i k : Nat) (hik : i < k) (hk : n < k) : Rel ⟨lst (rngF true n f i k) k, rngF true n f i k, false⟩ (rngN L i k) (fun j => (decide (i ≤ j) && decide (j < k)) || (decide (j < L) && F j)) := rel_least fun j => by
  have hle : n ≤ L := h.le
  have hb : (decide (j < L) && F j) = (decide (j < n) && f j) := h.bits j
  have hN : k ≤ rngN L i k := by unfold rngN; rw [if_pos hik]; omega
  rw [rngF_set n f i k j hik, hb]
  have hx : ((decide (i ≤ j) && decide (j < k)) || (decide (j < n) && f j)) = true → j < k := fun hh => by
    rcases Bool.or_eq_true_iff.1 hh with h1 | h1
    · exact of_decide_eq_true (Bool.and_eq_true_iff.1 h1).2
    · have := and_lt h1; omega
  rw [dec_and (p := j < rngN L i k) (fun hh => by have := hx hh; omega), dec_and (p := j < k) hx]
theorem rel5x (h : Rel ⟨n, f, t⟩ L F) (i k : Nat) (hik : i < k) (hk : n < k) : Rel ⟨lst (rngF false n f i k) k, rngF false n f i k, false⟩ (rngN L i k) (fun j => (decide (i ≤ j) && decide (j < k)) ^^ (decide (j < L) && F j)) := rel_least fun j => by
  have hle : n ≤ L := h.le
  have hb : (decide (j < L) && F j) = (decide (j < n) && f j) := h.bits j
  have hN : k ≤ rngN L i k := by unfold rngN; rw [if_pos hik]; omega
  rw [rngF_flip n f i k j hik, hb]
  have hx : ((decide (i ≤ j) && decide (j < k)) ^^ (decide (j < n) && f j)) = true → j < k := fun hh => by
    by_cases h1 : j < n
    · omega
    · rw [decide_eq_false h1, Bool.false_and, Bool.xor_false] at hh
      exact of_decide_eq_true (Bool.and_eq_true_iff.1 hh).2
  rw [dec_and (p := j < rngN L i k) (fun hh => by have := hx hh; omega), dec_and (p := j < k) hx]
theorem rel6 (h : Rel ⟨n, f, t⟩ L F) (i L' : Nat) (hL : ∀ j, L' ≤ j → (decide (i ≤ j) && (decide (j - i < L) && F (j - i))) = false) : Rel ⟨lst (fun j => fAt n f ((j : Int) - (i : Int))) (n + i), fun j => fAt n f ((j : Int) - (i : Int)), false⟩ L' (fun j => decide (i ≤ j) && (decide (j - i < L) && F (j - i))) := rel_least fun j => by
  have hb : (decide (j - i < L) && F (j - i)) = (decide (j - i < n) && f (j - i)) := h.bits (j - i)
  rw [dec_and (p := j < L') (fun hh => by by_cases h1 : j < L'; exact h1; rw [hL j (by omega)] at hh; cases hh), fAt_sub, hb]
  rw [dec_and (p := j < n + i) (fun hh => by have := and_lt (Bool.and_eq_true_iff.1 hh).2; have := of_decide_eq_true (Bool.and_eq_true_iff.1 hh).1; omega)]
theorem rel7 (h : Rel ⟨n, f, t⟩ L F) (i : Nat) : Rel ⟨lst (fun j => fAt n f ((j : Int) + (i : Int))) n, fun j => fAt n f ((j : Int) + (i : Int)), false⟩ L (fun j => decide (j + i < L) && F (j + i)) := rel_least fun j => by
  have hle : n ≤ L := h.le
  have hb : (decide (j + i < L) && F (j + i)) = (decide (j + i < n) && f (j + i)) := h.bits (j + i)
  rw [fAt_add, hb]
  rw [dec_and (p := j < L) (fun hh => by have := and_lt hh; omega), dec_and (p := j < n) (fun hh => by have := and_lt hh; omega)]
theorem rel8 (h : Rel ⟨n, f, t⟩ L F) (i : Nat) (hi : i < n) : Rel ⟨lst (fun j => (decide (j < i) && fAt n f j) || (decide (i < j) && fAt n f ((j : Int) - 1))) (n + 1), fun j => (decide (j < i) && fAt n f j) || (decide (i < j) && fAt n f ((j : Int) - 1)), false⟩ (L + 1) (fun j => if j < i then F j else !(j == i) && F (j - 1)) := rel_least fun j => by
  have hle : n ≤ L := h.le
  rcases Nat.lt_trichotomy j i with h1 | h1 | h1
  · rw [if_pos h1, decide_eq_true h1, decide_eq_false (show ¬ i < j by omega), decide_eq_true (show j < L + 1 by omega), decide_eq_true (show j < n + 1 by omega), fAt_in j rfl (by omega), h.bit (by omega)]; simp
  · rw [if_neg (show ¬ j < i by omega), decide_eq_false (show ¬ j < i by omega), decide_eq_false (show ¬ i < j by omega), beq_iff_eq.2 h1]; simp
  · rw [if_neg (show ¬ j < i by omega), decide_eq_false (show ¬ j < i by omega), decide_eq_true h1, beq_eq_false_iff_ne.2 (show j ≠ i by omega)]
    have hb : (decide (j - 1 < L) && F (j - 1)) = (decide (j - 1 < n) && f (j - 1)) := h.bits (j - 1)
    have e1 : decide (j < L + 1) = decide (j - 1 < L) := by by_cases h2 : j - 1 < L; rw [decide_eq_true h2, decide_eq_true (show j < L + 1 by omega)]; rw [decide_eq_false h2, decide_eq_false (show ¬ j < L + 1 by omega)]
    rw [show (!false && F (j - 1)) = F (j - 1) from rfl, e1, hb]
    by_cases h2 : j - 1 < n
    · rw [fAt_in (x := (j : Int) - 1) (j - 1) (by omega) h2, decide_eq_true h2, decide_eq_true (show j < n + 1 by omega)]; simp
    · rw [fAt_out (x := (j : Int) - 1) (by omega), decide_eq_false h2]; simp
theorem rel9 (h : Rel ⟨n, f, t⟩ L F) (i : Nat) (hi : i < n) : Rel ⟨lst (fun j => (decide (j < i) && fAt n f j) || (decide (i ≤ j) && fAt n f ((j : Int) + 1))) n, fun j => (decide (j < i) && fAt n f j) || (decide (i ≤ j) && fAt n f ((j : Int) + 1)), false⟩ (L - 1) (fun j => if j < i then F j else F (j + 1)) := rel_least fun j => by
  have hle : n ≤ L := h.le
  by_cases h1 : j < i
  · rw [if_pos h1, decide_eq_true h1, decide_eq_false (show ¬ i ≤ j by omega), decide_eq_true (show j < L - 1 by omega), decide_eq_true (show j < n by omega), fAt_in j rfl (by omega), h.bit (by omega)]; simp
  · rw [if_neg h1, decide_eq_false h1, decide_eq_true (show i ≤ j by omega)]
    have hb : (decide (j + 1 < L) && F (j + 1)) = (decide (j + 1 < n) && f (j + 1)) := h.bits (j + 1)
    have e1 : decide (j < L - 1) = decide (j + 1 < L) := by by_cases h2 : j + 1 < L; rw [decide_eq_true h2, decide_eq_true (show j < L - 1 by omega)]; rw [decide_eq_false h2, decide_eq_false (show ¬ j < L - 1 by omega)]
    rw [e1, hb]
    by_cases h2 : j + 1 < n
    · rw [fAt_in (x := (j : Int) + 1) (j + 1) (by omega) h2, decide_eq_true h2, decide_eq_true (show j < n by omega)]; simp
    · rw [fAt_out (x := (j : Int) + 1) (by omega), decide_eq_false h2]; simp
theorem rel10 (h : Rel ⟨n, f, t⟩ L F) : Rel ⟨n, fun _ => false, t⟩ L (fun _ => false) := ⟨h.le, h.told, fun j => by rw [Bool.and_false, Bool.and_false]⟩
theorem rel11 (h : Rel ⟨n, f, t⟩ L F) (ht : t = true) : Rel ⟨n, fun _ => true, true⟩ L (fun _ => true) := by
  have hnL : n = L := h.told ht
  exact ⟨h.le, fun _ => hnL, fun j => by show (decide (j < L) && true) = (decide (j < n) && true); rw [hnL]⟩
theorem rel12 (h : Rel ⟨n, f, t⟩ L F) (L' : Nat) (hL : L' ≤ L) (hz : ∀ j, L' ≤ j → j < L → F j = false) : Rel ⟨lst (fun i => decide (i < n) && f i) n, fun i => decide (i < n) && f i, false⟩ L' F := rel_least fun j => by
  have hb : (decide (j < L) && F j) = (decide (j < n) && f j) := h.bits j
  rw [← Bool.and_assoc, Bool.and_self, ← hb]
  by_cases h1 : j < L'
  · rw [decide_eq_true h1, decide_eq_true (show j < L by omega)]
  · rw [decide_eq_false h1, Bool.false_and]
    by_cases h2 : j < L
    · rw [hz j (by omega) h2, Bool.and_false]
    · rw [decide_eq_false h2, Bool.false_and]
theorem rel13 (h : Rel ⟨n, f, t⟩ L F) (i : Nat) (hi : i < n) : Rel ⟨i + 1, f, true⟩ (i + 1) F := by
  refine ⟨Nat.le_refl _, fun _ => rfl, fun j => ?_⟩
  by_cases h1 : j < i + 1
  · show (decide (j < i + 1) && F j) = (decide (j < i + 1) && f j)
    rw [h.bit (by omega)]
  · show (decide (j < i + 1) && F j) = (decide (j < i + 1) && f j)
    rw [decide_eq_false h1, Bool.false_and, Bool.false_and]
end

end Go.Proofs.Ytiaghdnhapiioaa

/-
  The reference's Do, for every step.
-/
import Derived.Test.YtiaghdnhapiioaaKdA
import Derived.Test.YtiaghdnhapiioaaKdB
import Derived.Test.YtiaghdnhapiioaaKdC
import Derived.Test.YtiaghdnhapiioaaKdE
import Derived.Test.YtiaghdnhapiioaaKdF
import Derived.Test.YtiaghdnhapiioaaScrL
namespace Go.Proofs.Ytiaghdnhapiioaa
set_option linter.unusedSimpArgs false
set_option linter.unusedVariables false
open Go.RowKit

set_option maxHeartbeats 1000000 in
set_option maxRecDepth 100000 in
theorem doE1_c (s : Value) (n : Nat) (f : Nat → Bool) (t : Bool) (w : World) (hs : SpecSet w s n f t) (op A B : Int) (h : A < 0) :
    Calls Try.prog 13 #[s, .agg #[.int .i64 op, .int .i64 A, .int .i64 B]] w fun e w' => e = .returned (.tuple #[s, .bool false]) ∧ Kept [] w w' := by
  obtain ⟨b, c, rfl⟩ := hs.shape
  have k0 : Kept [] w (((w.alloc (.cells #[.slice (some ⟨b, 0, none⟩) n c, .bool t] 28)).alloc (.cells #[.int .i64 op, .int .i64 A, .int .i64 B] 34)).alloc (.cells #[.slice none 0 0, .bool false] 28)) := (((Kept.refl _ _).alloc _).alloc _).alloc _
  have g2 : (((w.alloc (.cells #[.slice (some ⟨b, 0, none⟩) n c, .bool t] 28)).alloc (.cells #[.int .i64 op, .int .i64 A, .int .i64 B] 34)).alloc (.cells #[.slice none 0 0, .bool false] 28)).heap[w.heap.size + 1 + 1]? = some (.cells #[.slice none 0 0, .bool false] 28 (0, 0)) := by
    have := heap_alloc_new ((w.alloc (.cells #[.slice (some ⟨b, 0, none⟩) n c, .bool t] 28)).alloc (.cells #[.int .i64 op, .int .i64 A, .int .i64 B] 34)) (.cells #[.slice none 0 0, .bool false] 28)
    simpa using this
  obtain ⟨y0, y1, y2, y3, y4, y5⟩ := box2 g2 (.slice (some ⟨b, 0, none⟩) n c) (.bool t)
  go_enter Try.func13, Try.ntmps13
  go_wp2_with fail
  refine bodyPost_ret (v := .tuple #[.agg #[.slice (some ⟨b, 0, none⟩) n c, .bool t], .bool false]) (by simp [results, Try.results13, go_sem, y4, y5]) rfl ⟨rfl, (((Kept.refl _ _).alloc _).alloc _).alloc _⟩

set_option maxHeartbeats 1000000 in
set_option maxRecDepth 100000 in
theorem doE2_c (s : Value) (n : Nat) (f : Nat → Bool) (t : Bool) (w : World) (hs : SpecSet w s n f t) (op A B : Int) (h1 : ¬ A < 0) (h : B < 0) :
    Calls Try.prog 13 #[s, .agg #[.int .i64 op, .int .i64 A, .int .i64 B]] w fun e w' => e = .returned (.tuple #[s, .bool false]) ∧ Kept [] w w' := by
  obtain ⟨b, c, rfl⟩ := hs.shape
  have k0 : Kept [] w (((w.alloc (.cells #[.slice (some ⟨b, 0, none⟩) n c, .bool t] 28)).alloc (.cells #[.int .i64 op, .int .i64 A, .int .i64 B] 34)).alloc (.cells #[.slice none 0 0, .bool false] 28)) := (((Kept.refl _ _).alloc _).alloc _).alloc _
  have g2 : (((w.alloc (.cells #[.slice (some ⟨b, 0, none⟩) n c, .bool t] 28)).alloc (.cells #[.int .i64 op, .int .i64 A, .int .i64 B] 34)).alloc (.cells #[.slice none 0 0, .bool false] 28)).heap[w.heap.size + 1 + 1]? = some (.cells #[.slice none 0 0, .bool false] 28 (0, 0)) := by
    have := heap_alloc_new ((w.alloc (.cells #[.slice (some ⟨b, 0, none⟩) n c, .bool t] 28)).alloc (.cells #[.int .i64 op, .int .i64 A, .int .i64 B] 34)) (.cells #[.slice none 0 0, .bool false] 28)
    simpa using this
  obtain ⟨y0, y1, y2, y3, y4, y5⟩ := box2 g2 (.slice (some ⟨b, 0, none⟩) n c) (.bool t)
  go_enter Try.func13, Try.ntmps13
  go_wp2_with fail
  refine bodyPost_ret (v := .tuple #[.agg #[.slice (some ⟨b, 0, none⟩) n c, .bool t], .bool false]) (by simp [results, Try.results13, go_sem, y4, y5]) rfl ⟨rfl, (((Kept.refl _ _).alloc _).alloc _).alloc _⟩

set_option maxHeartbeats 1000000 in
set_option maxRecDepth 100000 in
theorem doE3_c (s : Value) (n : Nat) (f : Nat → Bool) (t : Bool) (w : World) (hs : SpecSet w s n f t) (op A B : Int) (h1 : ¬ A < 0) (h2 : ¬ B < 0) (h : 2500 < A) :
    Calls Try.prog 13 #[s, .agg #[.int .i64 op, .int .i64 A, .int .i64 B]] w fun e w' => e = .returned (.tuple #[s, .bool false]) ∧ Kept [] w w' := by
  obtain ⟨b, c, rfl⟩ := hs.shape
  have k0 : Kept [] w (((w.alloc (.cells #[.slice (some ⟨b, 0, none⟩) n c, .bool t] 28)).alloc (.cells #[.int .i64 op, .int .i64 A, .int .i64 B] 34)).alloc (.cells #[.slice none 0 0, .bool false] 28)) := (((Kept.refl _ _).alloc _).alloc _).alloc _
  have g2 : (((w.alloc (.cells #[.slice (some ⟨b, 0, none⟩) n c, .bool t] 28)).alloc (.cells #[.int .i64 op, .int .i64 A, .int .i64 B] 34)).alloc (.cells #[.slice none 0 0, .bool false] 28)).heap[w.heap.size + 1 + 1]? = some (.cells #[.slice none 0 0, .bool false] 28 (0, 0)) := by
    have := heap_alloc_new ((w.alloc (.cells #[.slice (some ⟨b, 0, none⟩) n c, .bool t] 28)).alloc (.cells #[.int .i64 op, .int .i64 A, .int .i64 B] 34)) (.cells #[.slice none 0 0, .bool false] 28)
    simpa using this
  obtain ⟨y0, y1, y2, y3, y4, y5⟩ := box2 g2 (.slice (some ⟨b, 0, none⟩) n c) (.bool t)
  go_enter Try.func13, Try.ntmps13
  go_wp2_with fail
  refine bodyPost_ret (v := .tuple #[.agg #[.slice (some ⟨b, 0, none⟩) n c, .bool t], .bool false]) (by simp [results, Try.results13, go_sem, y4, y5]) rfl ⟨rfl, (((Kept.refl _ _).alloc _).alloc _).alloc _⟩

set_option maxHeartbeats 1000000 in
set_option maxRecDepth 100000 in
theorem doE4_c (s : Value) (n : Nat) (f : Nat → Bool) (t : Bool) (w : World) (hs : SpecSet w s n f t) (op A B : Int) (h1 : ¬ A < 0) (h2 : ¬ B < 0) (h3 : ¬ 2500 < A) (h : 2500 < B) :
    Calls Try.prog 13 #[s, .agg #[.int .i64 op, .int .i64 A, .int .i64 B]] w fun e w' => e = .returned (.tuple #[s, .bool false]) ∧ Kept [] w w' := by
  obtain ⟨b, c, rfl⟩ := hs.shape
  have k0 : Kept [] w (((w.alloc (.cells #[.slice (some ⟨b, 0, none⟩) n c, .bool t] 28)).alloc (.cells #[.int .i64 op, .int .i64 A, .int .i64 B] 34)).alloc (.cells #[.slice none 0 0, .bool false] 28)) := (((Kept.refl _ _).alloc _).alloc _).alloc _
  have g2 : (((w.alloc (.cells #[.slice (some ⟨b, 0, none⟩) n c, .bool t] 28)).alloc (.cells #[.int .i64 op, .int .i64 A, .int .i64 B] 34)).alloc (.cells #[.slice none 0 0, .bool false] 28)).heap[w.heap.size + 1 + 1]? = some (.cells #[.slice none 0 0, .bool false] 28 (0, 0)) := by
    have := heap_alloc_new ((w.alloc (.cells #[.slice (some ⟨b, 0, none⟩) n c, .bool t] 28)).alloc (.cells #[.int .i64 op, .int .i64 A, .int .i64 B] 34)) (.cells #[.slice none 0 0, .bool false] 28)
    simpa using this
  obtain ⟨y0, y1, y2, y3, y4, y5⟩ := box2 g2 (.slice (some ⟨b, 0, none⟩) n c) (.bool t)
  go_enter Try.func13, Try.ntmps13
  go_wp2_with fail
  refine bodyPost_ret (v := .tuple #[.agg #[.slice (some ⟨b, 0, none⟩) n c, .bool t], .bool false]) (by simp [results, Try.results13, go_sem, y4, y5]) rfl ⟨rfl, (((Kept.refl _ _).alloc _).alloc _).alloc _⟩

set_option maxHeartbeats 1000000 in
set_option maxRecDepth 100000 in
theorem doE5_c (s : Value) (n : Nat) (f : Nat → Bool) (t : Bool) (w : World) (hs : SpecSet w s n f t) (op A B : Int) (h1 : ¬ A < 0) (h2 : ¬ B < 0) (h3 : ¬ 2500 < A) (h4 : ¬ 2500 < B) (h : 6000 < (n : Int)) :
    Calls Try.prog 13 #[s, .agg #[.int .i64 op, .int .i64 A, .int .i64 B]] w fun e w' => e = .returned (.tuple #[s, .bool false]) ∧ Kept [] w w' := by
  obtain ⟨b, c, rfl⟩ := hs.shape
  have k0 : Kept [] w (((w.alloc (.cells #[.slice (some ⟨b, 0, none⟩) n c, .bool t] 28)).alloc (.cells #[.int .i64 op, .int .i64 A, .int .i64 B] 34)).alloc (.cells #[.slice none 0 0, .bool false] 28)) := (((Kept.refl _ _).alloc _).alloc _).alloc _
  have g2 : (((w.alloc (.cells #[.slice (some ⟨b, 0, none⟩) n c, .bool t] 28)).alloc (.cells #[.int .i64 op, .int .i64 A, .int .i64 B] 34)).alloc (.cells #[.slice none 0 0, .bool false] 28)).heap[w.heap.size + 1 + 1]? = some (.cells #[.slice none 0 0, .bool false] 28 (0, 0)) := by
    have := heap_alloc_new ((w.alloc (.cells #[.slice (some ⟨b, 0, none⟩) n c, .bool t] 28)).alloc (.cells #[.int .i64 op, .int .i64 A, .int .i64 B] 34)) (.cells #[.slice none 0 0, .bool false] 28)
    simpa using this
  obtain ⟨y0, y1, y2, y3, y4, y5⟩ := box2 g2 (.slice (some ⟨b, 0, none⟩) n c) (.bool t)
  go_enter Try.func13, Try.ntmps13
  go_wp2_with fail
  refine bodyPost_ret (v := .tuple #[.agg #[.slice (some ⟨b, 0, none⟩) n c, .bool t], .bool false]) (by simp [results, Try.results13, go_sem, y4, y5]) rfl ⟨rfl, (((Kept.refl _ _).alloc _).alloc _).alloc _⟩

set_option maxHeartbeats 2000000 in
set_option maxRecDepth 100000 in
theorem doE6_c (s : Value) (n i k : Nat) (f : Nat → Bool) (t : Bool) (w : World) (hs : SpecSet w s n f t) (hn : n ≤ 6000) (hi : i ≤ 2500) (hk : k ≤ 2500) (op : Int) (hop : op < 0 ∨ 13 < op) :
    Calls Try.prog 13 #[s, .agg #[.int .i64 op, .int .i64 i, .int .i64 k]] w fun e w' => e = .returned (.tuple #[s, .bool false]) ∧ Kept [] w w' := by
  obtain ⟨b, c, rfl⟩ := hs.shape
  have D0 := DoB.start w b c n t op i k
  have k0 : Kept [] w (((w.alloc (.cells #[.slice (some ⟨b, 0, none⟩) n c, .bool t] 28)).alloc (.cells #[.int .i64 op, .int .i64 i, .int .i64 k] 34)).alloc (.cells #[.slice none 0 0, .bool false] 28)) := (((Kept.refl _ _).alloc _).alloc _).alloc _
  have h3 : ¬ (6000 : Int) < (n : Int) := by omega
  have h1 : ¬ (i : Int) < 0 := by omega
  have h2 : ¬ (2500 : Int) < (i : Int) := by omega
  have hB1 : ¬ (k : Int) < 0 := by omega
  have hB2 : ¬ (2500 : Int) < (k : Int) := by omega
  have v0 : ¬ op = 0 := by omega
  have v1 : ¬ op = 1 := by omega
  have v2 : ¬ op = 2 := by omega
  have v3 : ¬ op = 3 := by omega
  have v4 : ¬ op = 4 := by omega
  have v5 : ¬ op = 5 := by omega
  have v6 : ¬ op = 6 := by omega
  have v7 : ¬ op = 7 := by omega
  have v8 : ¬ op = 8 := by omega
  have v9 : ¬ op = 9 := by omega
  have v10 : ¬ op = 10 := by omega
  have v11 : ¬ op = 11 := by omega
  have v12 : ¬ op = 12 := by omega
  have v13 : ¬ op = 13 := by omega
  go_enter Try.func13, Try.ntmps13
  go_wp2_with fail
  refine (from_c n _ rfl 23 #[.agg #[.slice (some ⟨b, 0, none⟩) n c, .bool t]] #[] _ _ (by omega) callFunc_At (at_closure _ n f t _ (hs.kept k0) n)).mono ?_
  rintro e w1 ⟨b1, rfl, r1, n1, k1⟩
  have D1 := D0.kept k1
  have hs' := hs.kept (k0.trans0 k1)
  obtain ⟨a0, a1, a2, a3, a4, a5, a6, a7, a8⟩ := D1.cells
  obtain ⟨l1, l2, l3⟩ := D1.lt
  have hb1w : w.heap.size ≤ b1 := by simp at n1; omega
  have hb1z : b1 < w1.heap.size := r1.lt
  obtain ⟨y4, y5⟩ := box2A D1.2.2 (.slice (some ⟨b, 0, none⟩) n c) (.bool t) (.cells #[.slice (some ⟨b1, 0, none⟩) n n, .bool t] 28)
  have kV := k0.trans0 k1
  go_wp2_with fail
  refine bodyPost_ret (v := .tuple #[.agg #[.slice (some ⟨b, 0, none⟩) n c, .bool t], .bool false]) (by simp [results, Try.results13, go_sem, y4, y5]) rfl ⟨rfl, (((kV.setCell (by right; simp; omega) _).setCell (by right; simp; omega) _).alloc _)⟩

set_option maxHeartbeats 2000000 in
set_option maxRecDepth 100000 in
theorem doE7_c (s : Value) (n i k : Nat) (f : Nat → Bool) (w : World) (hs : SpecSet w s n f false) (hn : n ≤ 6000) (hi : i ≤ 2500) (hk : k ≤ 2500) :
    Calls Try.prog 13 #[s, .agg #[.int .i64 11, .int .i64 i, .int .i64 k]] w fun e w' => e = .returned (.tuple #[s, .bool false]) ∧ Kept [] w w' := by
  obtain ⟨b, c, rfl⟩ := hs.shape
  have D0 := DoB.start w b c n false 11 i k
  have k0 : Kept [] w (((w.alloc (.cells #[.slice (some ⟨b, 0, none⟩) n c, .bool false] 28)).alloc (.cells #[.int .i64 11, .int .i64 i, .int .i64 k] 34)).alloc (.cells #[.slice none 0 0, .bool false] 28)) := (((Kept.refl _ _).alloc _).alloc _).alloc _
  have h3 : ¬ (6000 : Int) < (n : Int) := by omega
  have h1 : ¬ (i : Int) < 0 := by omega
  have h2 : ¬ (2500 : Int) < (i : Int) := by omega
  have hB1 : ¬ (k : Int) < 0 := by omega
  have hB2 : ¬ (2500 : Int) < (k : Int) := by omega
  go_enter Try.func13, Try.ntmps13
  go_wp2_with fail
  refine (from_c n _ rfl 23 #[.agg #[.slice (some ⟨b, 0, none⟩) n c, .bool false]] #[] _ _ (by omega) callFunc_At (at_closure _ n f false _ (hs.kept k0) n)).mono ?_
  rintro e w1 ⟨b1, rfl, r1, n1, k1⟩
  have D1 := D0.kept k1
  have hs' := hs.kept (k0.trans0 k1)
  obtain ⟨a0, a1, a2, a3, a4, a5, a6, a7, a8⟩ := D1.cells
  obtain ⟨l1, l2, l3⟩ := D1.lt
  have hb1w : w.heap.size ≤ b1 := by simp at n1; omega
  have hb1z : b1 < w1.heap.size := r1.lt
  obtain ⟨y4, y5⟩ := box2A D1.2.2 (.slice (some ⟨b, 0, none⟩) n c) (.bool false) (.cells #[.slice (some ⟨b1, 0, none⟩) n n, .bool false] 28)
  have kV := k0.trans0 k1
  go_wp2_with fail
  refine bodyPost_ret (v := .tuple #[.agg #[.slice (some ⟨b, 0, none⟩) n c, .bool false], .bool false]) (by simp [results, Try.results13, go_sem, y4, y5]) rfl ⟨rfl, (((kV.setCell (by right; simp; omega) _).setCell (by right; simp; omega) _).alloc _)⟩

/-- What Do leaves. -/
def DoPost (w w' : World) (s : Value) (e : Ending) : Option Ref → Prop
  | some r => ∃ s', e = .returned (.tuple #[s', .bool true]) ∧ SpecSet w' s' r.n r.f r.t ∧ Kept [] w w'
  | none => e = .returned (.tuple #[s, .bool false]) ∧ Kept [] w w'
theorem do_any (s : Value) (n : Nat) (f : Nat → Bool) (t : Bool) (w : World) (hs : SpecSet w s n f t) (op A B : Int) :
    Calls Try.prog 13 #[s, .agg #[.int .i64 op, .int .i64 A, .int .i64 B]] w fun e w' => DoPost w w' s e (doS op A B ⟨n, f, t⟩) := by
  by_cases c1 : A < 0
  · rw [show doS op A B ⟨n, f, t⟩ = none from if_pos (.inl c1)]
    exact doE1_c s n f t w hs op A B c1
  by_cases c2 : B < 0
  · rw [show doS op A B ⟨n, f, t⟩ = none from if_pos (.inr (.inl c2))]
    exact doE2_c s n f t w hs op A B c1 c2
  by_cases c3 : 2500 < A
  · rw [show doS op A B ⟨n, f, t⟩ = none from if_pos (.inr (.inr (.inl c3)))]
    exact doE3_c s n f t w hs op A B c1 c2 c3
  by_cases c4 : 2500 < B
  · rw [show doS op A B ⟨n, f, t⟩ = none from if_pos (.inr (.inr (.inr (.inl c4))))]
    exact doE4_c s n f t w hs op A B c1 c2 c3 c4
  by_cases c5 : 6000 < (n : Int)
  · rw [show doS op A B ⟨n, f, t⟩ = none from if_pos (.inr (.inr (.inr (.inr (.inl c5)))))]
    exact doE5_c s n f t w hs op A B c1 c2 c3 c4 c5
  obtain ⟨i, rfl⟩ := Int.eq_ofNat_of_zero_le (show 0 ≤ A by omega)
  obtain ⟨k, rfl⟩ := Int.eq_ofNat_of_zero_le (show 0 ≤ B by omega)
  have hi : i ≤ 2500 := by omega
  have hk : k ≤ 2500 := by omega
  have hn : n ≤ 6000 := by omega
  by_cases c6 : op < 0
  · rw [show doS op i k ⟨n, f, t⟩ = none from if_pos (.inr (.inr (.inr (.inr (.inr c6)))))]
    exact doE6_c s n i k f t w hs hn hi hk op (.inl c6)
  obtain ⟨o, rfl⟩ := Int.eq_ofNat_of_zero_le (show 0 ≤ op by omega)
  have hdo : doS (o : Int) (i : Int) (k : Int) ⟨n, f, t⟩ = doN o i k n f t := by
    unfold doS
    rw [if_neg (by rintro (h | h | h | h | h | h) <;> first | exact c1 h | exact c2 h | exact c3 h | exact c4 h | exact c5 h | exact c6 h)]
    rw [Int.toNat_natCast, Int.toNat_natCast, Int.toNat_natCast]
  rw [hdo]
  clear hdo c1 c2 c3 c4 c5 c6
  by_cases c7 : 13 < o
  · have : doN o i k n f t = none := by
      obtain ⟨q, rfl⟩ : ∃ q, o = q + 14 := ⟨o - 14, by omega⟩
      unfold doN
      split <;> first | omega | rfl
    rw [this]
    exact doE6_c s n i k f t w hs hn hi hk _ (.inr (by omega))
  have ho : o = 0 ∨ o = 1 ∨ o = 2 ∨ o = 3 ∨ o = 4 ∨ o = 5 ∨ o = 6 ∨ o = 7 ∨ o = 8 ∨ o = 9 ∨ o = 10 ∨ o = 11 ∨ o = 12 ∨ o = 13 := by omega
  clear c7
  rcases ho with rfl | rfl | rfl | rfl | rfl | rfl | rfl | rfl | rfl | rfl | rfl | rfl | rfl | rfl
  · exact dk0_c s n i f t w hs hn hi k hk
  · exact dk1_c s n i f t w hs hn hi k hk
  · exact dk2_c s n i f t w hs hn hi k hk
  · by_cases h0 : k = 0
    · subst h0
      by_cases hin : i < n
      · rw [show doN 3 i 0 n f t = some ⟨n, fun j => !(j == i) && f j, t⟩ from (show doN 3 i 0 n f t = (if (0 : Nat) = 0 then (if i < n then some ⟨n, fun j => !(j == i) && f j, t⟩ else some ⟨lst (fun j => if j = i then false else (decide (j < n) && f j)) (max n (i + 1)), fun j => if j = i then false else (decide (j < n) && f j), false⟩) else some ⟨max n (i + 1), fun j => (j == i) || (decide (j < n) && f j), t⟩) from rfl).trans ((if_pos rfl).trans (if_pos hin))]
        exact dk3f_c s n i f t w hs hn hi hin
      · rw [show doN 3 i 0 n f t = some ⟨lst (fun j => if j = i then false else (decide (j < n) && f j)) (max n (i + 1)), fun j => if j = i then false else (decide (j < n) && f j), false⟩ from (show doN 3 i 0 n f t = (if (0 : Nat) = 0 then (if i < n then some ⟨n, fun j => !(j == i) && f j, t⟩ else some ⟨lst (fun j => if j = i then false else (decide (j < n) && f j)) (max n (i + 1)), fun j => if j = i then false else (decide (j < n) && f j), false⟩) else some ⟨max n (i + 1), fun j => (j == i) || (decide (j < n) && f j), t⟩) from rfl).trans ((if_pos rfl).trans (if_neg hin))]
        exact dk3u_c s n i f t w hs hn hi (by omega)
    · rw [show doN 3 i k n f t = some ⟨max n (i + 1), fun j => (j == i) || (decide (j < n) && f j), t⟩ from if_neg h0]
      exact dk3t_c s n i f t w hs hn hi k hk h0
  · by_cases hik : k ≤ i
    · rw [show doN 4 i k n f t = none from if_pos hik]
      exact dk4u_c s n i k f t w hs hn hi hk hik
    · by_cases hkn : k ≤ n
      · rw [show doN 4 i k n f t = some ⟨n, rngF true n f i k, t⟩ from (if_neg hik).trans (if_pos hkn)]
        exact dk4_c s n i k f t w hs hn hi hk (by omega) hkn
      · rw [show doN 4 i k n f t = some ⟨lst (rngF true n f i k) k, rngF true n f i k, false⟩ from (if_neg hik).trans (if_neg hkn)]
        exact dk4x_c s n i k f t w hs hn hi hk (by omega) (by omega)
  · by_cases hik : k ≤ i
    · rw [show doN 5 i k n f t = none from if_pos hik]
      exact dk5u_c s n i k f t w hs hn hi hk hik
    · by_cases hkn : k ≤ n
      · rw [show doN 5 i k n f t = some ⟨n, rngF false n f i k, t⟩ from (if_neg hik).trans (if_pos hkn)]
        exact dk5_c s n i k f t w hs hn hi hk (by omega) hkn
      · rw [show doN 5 i k n f t = some ⟨lst (rngF false n f i k) k, rngF false n f i k, false⟩ from (if_neg hik).trans (if_neg hkn)]
        exact dk5x_c s n i k f t w hs hn hi hk (by omega) (by omega)
  · by_cases hfar : 0 < lst f n ∧ (lst f n - 1 + i) % 64 = 0
    · rw [show doN 6 i k n f t = none from if_pos hfar]
      exact dk6u_c s n i f t w hs hn hfar hi k hk
    · rw [show doN 6 i k n f t = some ⟨lst (fun j => fAt n f ((j : Int) - (i : Int))) (n + i), fun j => fAt n f ((j : Int) - (i : Int)), false⟩ from if_neg hfar]
      exact dk6_c s n i f t w hs hn (by omega) hi k hk
  · by_cases hfar : 0 < lst f n ∧ lst f n ≤ i + 1
    · rw [show doN 7 i k n f t = none from if_pos hfar]
      exact dk7u_c s n i f t w hs hn hfar hi k hk
    · rw [show doN 7 i k n f t = some ⟨lst (fun j => fAt n f ((j : Int) + (i : Int))) (n), fun j => fAt n f ((j : Int) + (i : Int)), false⟩ from if_neg hfar]
      exact dk7_c s n i f t w hs hn (by omega) hi k hk
  · by_cases hin : n ≤ i
    · rw [show doN 8 i k n f t = none from if_pos hin]
      exact dk8u_c s n i f t w hs hn hin hi k hk
    · rw [show doN 8 i k n f t = some ⟨lst (fun j => (decide (j < i) && fAt n f j) || (decide (i < j) && fAt n f ((j : Int) - 1))) (n + 1), fun j => (decide (j < i) && fAt n f j) || (decide (i < j) && fAt n f ((j : Int) - 1)), false⟩ from if_neg hin]
      exact dk8_c s n i f t w hs hn (by omega) hi k hk
  · by_cases hin : n ≤ i
    · rw [show doN 9 i k n f t = none from if_pos hin]
      exact dk9u_c s n i f t w hs hn hin hi k hk
    · rw [show doN 9 i k n f t = some ⟨lst (fun j => (decide (j < i) && fAt n f j) || (decide (i ≤ j) && fAt n f ((j : Int) + 1))) (n), fun j => (decide (j < i) && fAt n f j) || (decide (i ≤ j) && fAt n f ((j : Int) + 1)), false⟩ from if_neg hin]
      exact dk9_c s n i f t w hs hn (by omega) hi k hk
  · exact dk10_c s n i f t w hs hn hi k hk
  · cases ht : t with
    | true => subst ht; exact dk11_c s n i f true w hs hn rfl hi k hk
    | false => subst ht; exact doE7_c s n i k f w hs hn hi hk
  · exact dk12_c s n i f t w hs hn hi k hk
  · by_cases hin : n ≤ i
    · rw [show doN 13 i k n f t = none from if_pos hin]
      exact dk13u_c s n i f t w hs hn hin hi k hk
    · rw [show doN 13 i k n f t = some ⟨i + 1, f, true⟩ from if_neg hin]
      exact dk13_c s n i f t w hs hn (by omega) hi k hk

end Go.Proofs.Ytiaghdnhapiioaa

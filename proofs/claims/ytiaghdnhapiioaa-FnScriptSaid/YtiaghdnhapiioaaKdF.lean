/-
  The reference's steps 6 and 7, for every number k of the step.
-/
import Derived.Test.YtiaghdnhapiioaaCl
namespace Go.Proofs.Ytiaghdnhapiioaa
set_option linter.unusedSimpArgs false
set_option linter.unusedVariables false
open Go.RowKit

theorem fAt_add (n : Nat) (f : Nat → Bool) (j i : Nat) : fAt n f ((j : Int) + (i : Int)) = (decide (j + i < n) && f (j + i)) := by
  by_cases h : j + i < n
  · rw [fAt_in (j + i) (by omega) h, decide_eq_true h, Bool.true_and]
  · rw [fAt_out (.inr (by omega)), decide_eq_false h, Bool.false_and]
theorem fAt_sub (n : Nat) (f : Nat → Bool) (j i : Nat) : fAt n f ((j : Int) - (i : Int)) = (decide (i ≤ j) && (decide (j - i < n) && f (j - i))) := by
  by_cases h : i ≤ j
  · rw [decide_eq_true h, Bool.true_and]
    by_cases h2 : j - i < n
    · rw [fAt_in (j - i) (by omega) h2, decide_eq_true h2, Bool.true_and]
    · rw [fAt_out (.inr (by omega)), decide_eq_false h2, Bool.false_and]
  · rw [fAt_out (.inl (by omega)), decide_eq_false h, Bool.false_and]

set_option maxHeartbeats 2000000 in
set_option maxRecDepth 100000 in
theorem dk7_c (s : Value) (n i : Nat) (f : Nat → Bool) (t : Bool) (w : World) (hs : SpecSet w s n f t) (hn : n ≤ 6000) (hfar : lst f n = 0 ∨ i + 1 < lst f n) (hi : i ≤ 2500) (k : Nat) (hk : k ≤ 2500) :
    Calls Try.prog 13 #[s, .agg #[.int .i64 7, .int .i64 i, .int .i64 k]] w fun e w' => ∃ s', e = .returned (.tuple #[s', .bool true]) ∧ SpecSet w' s' (lst (fun j => fAt n f ((j : Int) + (i : Int))) (n)) (fun j => fAt n f ((j : Int) + (i : Int))) false ∧ Kept [] w w' := by
  obtain ⟨b, c, rfl⟩ := hs.shape
  have D0 := DoB.start w b c n t 7 i k
  have hB1 : ¬ (k : Int) < 0 := by omega
  have hB2 : ¬ (2500 : Int) < (k : Int) := by omega
  have k0 : Kept [] w (((w.alloc (.cells #[.slice (some ⟨b, 0, none⟩) n c, .bool t] 28)).alloc (.cells #[.int .i64 7, .int .i64 i, .int .i64 k] 34)).alloc (.cells #[.slice none 0 0, .bool false] 28)) := (((Kept.refl _ _).alloc _).alloc _).alloc _
  have h3 : ¬ (6000 : Int) < (n : Int) := by omega
  have h1 : ¬ (i : Int) < 0 := by omega
  have h2 : ¬ (2500 : Int) < (i : Int) := by omega
  obtain ⟨q, hqe⟩ : ∃ q, lst f n = q := ⟨_, rfl⟩
  have hql := lst_le f n
  rw [hqe] at hfar hql
  have HQE := Lib.hid hqe; clear hqe
  by_cases hik : q = 0
  all_goals
    first
      | (have u1 : ¬ (0 : Int) ≤ (q : Int) - 1 := by omega)
      | (have u1 : (0 : Int) ≤ (q : Int) - 1 := by omega)
    try have u2 : ¬ (q : Int) - 1 ≤ (i : Int) := by omega
    go_enter Try.func13, Try.ntmps13
    go_wp2_with fail
    refine (from_c n _ rfl 23 #[.agg #[.slice (some ⟨b, 0, none⟩) n c, .bool t]] #[] _ _ (by omega) callFunc_At (at_closure _ n f t _ (hs.kept k0) n)).mono ?_
    rintro e w1 ⟨b1, rfl, r1, n1, k1⟩
    have D1 := D0.kept k1
    have hs' := hs.kept (k0.trans0 k1)
    obtain ⟨a0, a1, a2, a3, a4, a5, a6, a7, a8⟩ := D1.cells
    obtain ⟨l1, l2, l3⟩ := D1.lt
    have hb1w : w.heap.size ≤ b1 := by simp at n1; omega
    have hb1z : b1 < w1.heap.size := r1.lt
    go_wp2_with fail
    have kz : Kept [] w1 (w1.alloc (.cells #[.slice (some ⟨b1, 0, none⟩) n n, .bool t] 28)) := (Kept.refl _ _).alloc _
    have D2 := D1.kept kz
    have hs2 := hs'.kept kz
    refine (top_c _ n f t _ hs2 (by omega)).mono ?_
    rintro e wt ⟨rfl, kt⟩
    have D2 := D2.kept kt
    have hs2 := hs2.kept kt
    have kz := kz.trans0 kt
    obtain ⟨t0, t1, t2, t3, t4, t5, t6, t7, t8⟩ := D2.cells
    obtain ⟨tl1, tl2, tl3⟩ := D2.lt
    rw [HQE.out]
    go_wp2_with fail
    refine (from_c (n) _ (by omega) 34 #[] #[.pointer (some ⟨w.heap.size, 0, none⟩), .pointer (some ⟨w.heap.size + 1, 0, none⟩)] (fun j => fAt n f ((j : Int) + (i : Int))) _ (by omega) (fun args w => by kernel_rfl) (fun j w' hj q => cl7_c w.heap.size b c n j i f t _ _ w' (D2.kept q) (hs2.kept q) (by omega) (by omega))).mono ?_
    rintro e w2 ⟨b2, rfl, r2, n2, k2⟩
    have D3 := D2.kept k2
    obtain ⟨p0, p1, p2, p3, p4, p5, p6, p7, p8⟩ := D3.cells
    obtain ⟨m1, m2, m3⟩ := D3.lt
    go_wp2_with fail
    refine (least_c _ (n) (fun j => fAt n f ((j : Int) + (i : Int))) true _ ⟨b2, n, rfl, r2⟩ (by omega)).mono ?_
    rintro e w9 ⟨s9, rfl, ⟨b9, c9, rfl, r9⟩, k9⟩
    have hq := lst_le (fun j => fAt n f ((j : Int) + (i : Int))) (n)
    obtain ⟨q9, hql⟩ : ∃ q9, lst (fun j => fAt n f ((j : Int) + (i : Int))) (n) = q9 := ⟨_, rfl⟩
    rw [hql] at r9 hq ⊢
    have hD9 := k9.heap (by simp) D3.2.2
    have hb9 := r9.ne hD9 (by decide)
    have kV := ((((k0.trans0 k1).trans0 kz).trans0 k2)).trans0 k9
    have HQ := Lib.hid hql
    clear hql
    obtain ⟨y0, y1, y2, y3, y4, y5⟩ := box2 hD9 (.slice (some ⟨b9, 0, none⟩) q9 c9) (.bool false)
    go_wp2_with fail
    refine bodyPost_ret (v := .tuple #[.agg #[.slice (some ⟨b9, 0, none⟩) q9 c9, .bool false], .bool true]) (by simp [results, Try.results13, go_sem, y4, y5]) rfl ⟨_, rfl, ?_, (kV.setCell (by right; simp; omega) _).setCell (by right; simp; omega) _⟩
    rw [HQ.out]
    exact ⟨b9, c9, rfl, (r9.other hb9 _).other hb9 _⟩

set_option maxHeartbeats 2000000 in
set_option maxRecDepth 100000 in
theorem dk6_c (s : Value) (n i : Nat) (f : Nat → Bool) (t : Bool) (w : World) (hs : SpecSet w s n f t) (hn : n ≤ 6000) (hfar : lst f n = 0 ∨ (lst f n - 1 + i) % 64 ≠ 0) (hi : i ≤ 2500) (k : Nat) (hk : k ≤ 2500) :
    Calls Try.prog 13 #[s, .agg #[.int .i64 6, .int .i64 i, .int .i64 k]] w fun e w' => ∃ s', e = .returned (.tuple #[s', .bool true]) ∧ SpecSet w' s' (lst (fun j => fAt n f ((j : Int) - (i : Int))) (n + i)) (fun j => fAt n f ((j : Int) - (i : Int))) false ∧ Kept [] w w' := by
  obtain ⟨b, c, rfl⟩ := hs.shape
  have D0 := DoB.start w b c n t 6 i k
  have hB1 : ¬ (k : Int) < 0 := by omega
  have hB2 : ¬ (2500 : Int) < (k : Int) := by omega
  have k0 : Kept [] w (((w.alloc (.cells #[.slice (some ⟨b, 0, none⟩) n c, .bool t] 28)).alloc (.cells #[.int .i64 6, .int .i64 i, .int .i64 k] 34)).alloc (.cells #[.slice none 0 0, .bool false] 28)) := (((Kept.refl _ _).alloc _).alloc _).alloc _
  have h3 : ¬ (6000 : Int) < (n : Int) := by omega
  have h1 : ¬ (i : Int) < 0 := by omega
  have h2 : ¬ (2500 : Int) < (i : Int) := by omega
  obtain ⟨q, hqe⟩ : ∃ q, lst f n = q := ⟨_, rfl⟩
  have hql := lst_le f n
  rw [hqe] at hfar hql
  have HQE := Lib.hid hqe; clear hqe
  by_cases hik : q = 0
  all_goals
    first
      | (have u1 : ¬ (0 : Int) ≤ (q : Int) - 1 := by omega)
      | (have u1 : (0 : Int) ≤ (q : Int) - 1 := by omega)
    try have u2 : ¬ ((q : Int) - 1 + (i : Int)) % 64 = 0 := by omega
    try have u3 : ¬ ((q : Int) - 1 + (i : Int)).tmod 64 = 0 := by rw [Int.tmod_eq_emod_of_nonneg (by omega)]; exact u2
    go_enter Try.func13, Try.ntmps13
    go_wp2_with fail
    refine (from_c n _ rfl 23 #[.agg #[.slice (some ⟨b, 0, none⟩) n c, .bool t]] #[] _ _ (by omega) callFunc_At (at_closure _ n f t _ (hs.kept k0) n)).mono ?_
    rintro e w1 ⟨b1, rfl, r1, n1, k1⟩
    have D1 := D0.kept k1
    have hs' := hs.kept (k0.trans0 k1)
    obtain ⟨a0, a1, a2, a3, a4, a5, a6, a7, a8⟩ := D1.cells
    obtain ⟨l1, l2, l3⟩ := D1.lt
    have hb1w : w.heap.size ≤ b1 := by simp at n1; omega
    have hb1z : b1 < w1.heap.size := r1.lt
    go_wp2_with fail
    have kz : Kept [] w1 (w1.alloc (.cells #[.slice (some ⟨b1, 0, none⟩) n n, .bool t] 28)) := (Kept.refl _ _).alloc _
    have D2 := D1.kept kz
    have hs2 := hs'.kept kz
    refine (top_c _ n f t _ hs2 (by omega)).mono ?_
    rintro e wt ⟨rfl, kt⟩
    have D2 := D2.kept kt
    have hs2 := hs2.kept kt
    have kz := kz.trans0 kt
    obtain ⟨t0, t1, t2, t3, t4, t5, t6, t7, t8⟩ := D2.cells
    obtain ⟨tl1, tl2, tl3⟩ := D2.lt
    rw [HQE.out]
    go_wp2_with fail
    refine (from_c (n + i) _ (by omega) 33 #[] #[.pointer (some ⟨w.heap.size, 0, none⟩), .pointer (some ⟨w.heap.size + 1, 0, none⟩)] (fun j => fAt n f ((j : Int) - (i : Int))) _ (by omega) (fun args w => by kernel_rfl) (fun j w' hj q => cl6_c w.heap.size b c n j i f t _ _ w' (D2.kept q) (hs2.kept q) (by omega) (by omega))).mono ?_
    rintro e w2 ⟨b2, rfl, r2, n2, k2⟩
    have D3 := D2.kept k2
    obtain ⟨p0, p1, p2, p3, p4, p5, p6, p7, p8⟩ := D3.cells
    obtain ⟨m1, m2, m3⟩ := D3.lt
    go_wp2_with fail
    refine (least_c _ (n + i) (fun j => fAt n f ((j : Int) - (i : Int))) true _ ⟨b2, n + i, rfl, r2⟩ (by omega)).mono ?_
    rintro e w9 ⟨s9, rfl, ⟨b9, c9, rfl, r9⟩, k9⟩
    have hq := lst_le (fun j => fAt n f ((j : Int) - (i : Int))) (n + i)
    obtain ⟨q9, hql⟩ : ∃ q9, lst (fun j => fAt n f ((j : Int) - (i : Int))) (n + i) = q9 := ⟨_, rfl⟩
    rw [hql] at r9 hq ⊢
    have hD9 := k9.heap (by simp) D3.2.2
    have hb9 := r9.ne hD9 (by decide)
    have kV := ((((k0.trans0 k1).trans0 kz).trans0 k2)).trans0 k9
    have HQ := Lib.hid hql
    clear hql
    obtain ⟨y0, y1, y2, y3, y4, y5⟩ := box2 hD9 (.slice (some ⟨b9, 0, none⟩) q9 c9) (.bool false)
    go_wp2_with fail
    refine bodyPost_ret (v := .tuple #[.agg #[.slice (some ⟨b9, 0, none⟩) q9 c9, .bool false], .bool true]) (by simp [results, Try.results13, go_sem, y4, y5]) rfl ⟨_, rfl, ?_, (kV.setCell (by right; simp; omega) _).setCell (by right; simp; omega) _⟩
    rw [HQ.out]
    exact ⟨b9, c9, rfl, (r9.other hb9 _).other hb9 _⟩

set_option maxHeartbeats 2000000 in
set_option maxRecDepth 100000 in
theorem dk7u_c (s : Value) (n i : Nat) (f : Nat → Bool) (t : Bool) (w : World) (hs : SpecSet w s n f t) (hn : n ≤ 6000) (hfar : 0 < lst f n ∧ lst f n ≤ i + 1) (hi : i ≤ 2500) (k : Nat) (hk : k ≤ 2500) :
    Calls Try.prog 13 #[s, .agg #[.int .i64 7, .int .i64 i, .int .i64 k]] w fun e w' => e = .returned (.tuple #[s, .bool false]) ∧ Kept [] w w' := by
  obtain ⟨b, c, rfl⟩ := hs.shape
  have D0 := DoB.start w b c n t 7 i k
  have hB1 : ¬ (k : Int) < 0 := by omega
  have hB2 : ¬ (2500 : Int) < (k : Int) := by omega
  have k0 : Kept [] w (((w.alloc (.cells #[.slice (some ⟨b, 0, none⟩) n c, .bool t] 28)).alloc (.cells #[.int .i64 7, .int .i64 i, .int .i64 k] 34)).alloc (.cells #[.slice none 0 0, .bool false] 28)) := (((Kept.refl _ _).alloc _).alloc _).alloc _
  have h3 : ¬ (6000 : Int) < (n : Int) := by omega
  have h1 : ¬ (i : Int) < 0 := by omega
  have h2 : ¬ (2500 : Int) < (i : Int) := by omega
  obtain ⟨q, hqe⟩ : ∃ q, lst f n = q := ⟨_, rfl⟩
  have hql := lst_le f n
  rw [hqe] at hfar hql
  have HQE := Lib.hid hqe; clear hqe
  have u1 : (0 : Int) ≤ (q : Int) - 1 := by omega
  have u2 : (q : Int) - 1 ≤ (i : Int) := by omega
  go_enter Try.func13, Try.ntmps13
  go_wp2_with fail
  refine (from_c n _ rfl 23 #[.agg #[.slice (some ⟨b, 0, none⟩) n c, .bool t]] #[] _ _ (by omega) callFunc_At (at_closure _ n f t _ (hs.kept k0) n)).mono ?_
  rintro e w1 ⟨b1, rfl, r1, n1, k1⟩
  have D1 := D0.kept k1
  have hs' := hs.kept (k0.trans0 k1)
  obtain ⟨a0, a1, a2, a3, a4, a5, a6, a7, a8⟩ := D1.cells
  obtain ⟨l1, l2, l3⟩ := D1.lt
  have hb1w : w.heap.size ≤ b1 := by simp at n1; omega
  have hb1z : b1 < w1.heap.size := r1.lt
  go_wp2_with fail
  have kz : Kept [] w1 (w1.alloc (.cells #[.slice (some ⟨b1, 0, none⟩) n n, .bool t] 28)) := (Kept.refl _ _).alloc _
  have D2 := D1.kept kz
  have hs2 := hs'.kept kz
  refine (top_c _ n f t _ hs2 (by omega)).mono ?_
  rintro e wt ⟨rfl, kt⟩
  have D2 := D2.kept kt
  have hs2 := hs2.kept kt
  have kz := kz.trans0 kt
  obtain ⟨t0, t1, t2, t3, t4, t5, t6, t7, t8⟩ := D2.cells
  obtain ⟨tl1, tl2, tl3⟩ := D2.lt
  rw [HQE.out]
  obtain ⟨y0, y1, y2, y3, y4, y5⟩ := box2 D2.2.2 (.slice (some ⟨b, 0, none⟩) n c) (.bool t)
  have kV := ((k0.trans0 k1).trans0 kz)
  go_wp2_with fail
  refine bodyPost_ret (v := .tuple #[.agg #[.slice (some ⟨b, 0, none⟩) n c, .bool t], .bool false]) (by simp [results, Try.results13, go_sem, y4, y5]) rfl ⟨rfl, ((kV.setCell (by right; simp; omega) _).setCell (by right; simp; omega) _)⟩

set_option maxHeartbeats 2000000 in
set_option maxRecDepth 100000 in
theorem dk6u_c (s : Value) (n i : Nat) (f : Nat → Bool) (t : Bool) (w : World) (hs : SpecSet w s n f t) (hn : n ≤ 6000) (hfar : 0 < lst f n ∧ (lst f n - 1 + i) % 64 = 0) (hi : i ≤ 2500) (k : Nat) (hk : k ≤ 2500) :
    Calls Try.prog 13 #[s, .agg #[.int .i64 6, .int .i64 i, .int .i64 k]] w fun e w' => e = .returned (.tuple #[s, .bool false]) ∧ Kept [] w w' := by
  obtain ⟨b, c, rfl⟩ := hs.shape
  have D0 := DoB.start w b c n t 6 i k
  have hB1 : ¬ (k : Int) < 0 := by omega
  have hB2 : ¬ (2500 : Int) < (k : Int) := by omega
  have k0 : Kept [] w (((w.alloc (.cells #[.slice (some ⟨b, 0, none⟩) n c, .bool t] 28)).alloc (.cells #[.int .i64 6, .int .i64 i, .int .i64 k] 34)).alloc (.cells #[.slice none 0 0, .bool false] 28)) := (((Kept.refl _ _).alloc _).alloc _).alloc _
  have h3 : ¬ (6000 : Int) < (n : Int) := by omega
  have h1 : ¬ (i : Int) < 0 := by omega
  have h2 : ¬ (2500 : Int) < (i : Int) := by omega
  obtain ⟨q, hqe⟩ : ∃ q, lst f n = q := ⟨_, rfl⟩
  have hql := lst_le f n
  rw [hqe] at hfar hql
  have HQE := Lib.hid hqe; clear hqe
  have u1 : (0 : Int) ≤ (q : Int) - 1 := by omega
  have u2 : ((q : Int) - 1 + (i : Int)) % 64 = 0 := by omega
  have u3 : ((q : Int) - 1 + (i : Int)).tmod 64 = 0 := by rw [Int.tmod_eq_emod_of_nonneg (by omega)]; exact u2
  go_enter Try.func13, Try.ntmps13
  go_wp2_with fail
  refine (from_c n _ rfl 23 #[.agg #[.slice (some ⟨b, 0, none⟩) n c, .bool t]] #[] _ _ (by omega) callFunc_At (at_closure _ n f t _ (hs.kept k0) n)).mono ?_
  rintro e w1 ⟨b1, rfl, r1, n1, k1⟩
  have D1 := D0.kept k1
  have hs' := hs.kept (k0.trans0 k1)
  obtain ⟨a0, a1, a2, a3, a4, a5, a6, a7, a8⟩ := D1.cells
  obtain ⟨l1, l2, l3⟩ := D1.lt
  have hb1w : w.heap.size ≤ b1 := by simp at n1; omega
  have hb1z : b1 < w1.heap.size := r1.lt
  go_wp2_with fail
  have kz : Kept [] w1 (w1.alloc (.cells #[.slice (some ⟨b1, 0, none⟩) n n, .bool t] 28)) := (Kept.refl _ _).alloc _
  have D2 := D1.kept kz
  have hs2 := hs'.kept kz
  refine (top_c _ n f t _ hs2 (by omega)).mono ?_
  rintro e wt ⟨rfl, kt⟩
  have D2 := D2.kept kt
  have hs2 := hs2.kept kt
  have kz := kz.trans0 kt
  obtain ⟨t0, t1, t2, t3, t4, t5, t6, t7, t8⟩ := D2.cells
  obtain ⟨tl1, tl2, tl3⟩ := D2.lt
  rw [HQE.out]
  obtain ⟨y0, y1, y2, y3, y4, y5⟩ := box2 D2.2.2 (.slice (some ⟨b, 0, none⟩) n c) (.bool t)
  have kV := ((k0.trans0 k1).trans0 kz)
  go_wp2_with fail
  refine bodyPost_ret (v := .tuple #[.agg #[.slice (some ⟨b, 0, none⟩) n c, .bool t], .bool false]) (by simp [results, Try.results13, go_sem, y4, y5]) rfl ⟨rfl, ((kV.setCell (by right; simp; omega) _).setCell (by right; simp; omega) _)⟩

end Go.Proofs.Ytiaghdnhapiioaa

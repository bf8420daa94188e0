/-
  The reference's steps 12, 13, 8, 9, for every number k of the step.
-/
import Derived.Test.YtiaghdnhapiioaaCl
namespace Go.Proofs.Ytiaghdnhapiioaa
set_option linter.unusedSimpArgs false
set_option linter.unusedVariables false
open Go.RowKit

set_option maxHeartbeats 2000000 in
set_option maxRecDepth 100000 in
theorem dk12_c (s : Value) (n i : Nat) (f : Nat → Bool) (t : Bool) (w : World) (hs : SpecSet w s n f t) (hn : n ≤ 6000) (hi : i ≤ 2500) (k : Nat) (hk : k ≤ 2500) :
    Calls Try.prog 13 #[s, .agg #[.int .i64 12, .int .i64 i, .int .i64 k]] w fun e w' => ∃ s', e = .returned (.tuple #[s', .bool true]) ∧ SpecSet w' s' (lst (fun i => decide (i < n) && f i) (n)) (fun i => decide (i < n) && f i) false ∧ Kept [] w w' := by
  obtain ⟨b, c, rfl⟩ := hs.shape
  have D0 := DoB.start w b c n t 12 i k
  have hB1 : ¬ (k : Int) < 0 := by omega
  have hB2 : ¬ (2500 : Int) < (k : Int) := by omega
  have h1 : ¬ (i : Int) < 0 := by omega
  have h2 : ¬ (2500 : Int) < (i : Int) := by omega
  have k0 : Kept [] w (((w.alloc (.cells #[.slice (some ⟨b, 0, none⟩) n c, .bool t] 28)).alloc (.cells #[.int .i64 12, .int .i64 i, .int .i64 k] 34)).alloc (.cells #[.slice none 0 0, .bool false] 28)) := (((Kept.refl _ _).alloc _).alloc _).alloc _
  have h3 : ¬ (6000 : Int) < (n : Int) := by omega
  go_enter Try.func13, Try.ntmps13
  go_wp2_with fail
  refine (from_c n _ rfl 23 #[.agg #[.slice (some ⟨b, 0, none⟩) n c, .bool t]] #[] _ _ (by omega) callFunc_At (at_closure _ n f t _ (hs.kept k0) n)).mono ?_
  rintro e w1 ⟨b1, rfl, r1, n1, k1⟩
  have D1 := D0.kept k1
  have hs' := hs.kept (k0.trans0 k1)
  obtain ⟨a0, a1, a2, a3, a4, a5, a6, a7, a8⟩ := D1.cells
  obtain ⟨l1, l2, l3⟩ := D1.lt
  have hb1w : w.heap.size ≤ b1 := by simp at n1; omega
  have hb1z : b1 < w1.heap.size := r1.lt
  go_wp2_with fail
  have Dz := D1.kept (w' := (w1.alloc (.cells #[.slice (some ⟨b1, 0, none⟩) n n, .bool t] 28))) ((Kept.refl _ _).alloc _)
  refine (least_c _ (n) (fun i => decide (i < n) && f i) t _ ⟨b1, n, rfl, r1.alloc _⟩ (by omega)).mono ?_
  rintro e w9 ⟨s9, rfl, ⟨b9, c9, rfl, r9⟩, k9⟩
  have hq := lst_le (fun i => decide (i < n) && f i) (n)
  obtain ⟨q9, hql⟩ : ∃ q9, lst (fun i => decide (i < n) && f i) (n) = q9 := ⟨_, rfl⟩
  rw [hql] at r9 hq ⊢
  have hD9 := k9.heap (by simp) Dz.2.2
  have hb9 := r9.ne hD9 (by decide)
  have kV := ((k0.trans0 k1).alloc (.cells #[.slice (some ⟨b1, 0, none⟩) n n, .bool t] 28)).trans0 k9
  have HQ := Lib.hid hql
  clear hql
  obtain ⟨y0, y1, y2, y3, y4, y5⟩ := box2 hD9 (.slice (some ⟨b9, 0, none⟩) q9 c9) (.bool false)
  go_wp2_with fail
  refine bodyPost_ret (v := .tuple #[.agg #[.slice (some ⟨b9, 0, none⟩) q9 c9, .bool false], .bool true]) (by simp [results, Try.results13, go_sem, y4, y5]) rfl ⟨_, rfl, ?_, (kV.setCell (by right; simp; omega) _).setCell (by right; simp; omega) _⟩
  rw [HQ.out]
  exact ⟨b9, c9, rfl, (r9.other hb9 _).other hb9 _⟩

set_option maxHeartbeats 2000000 in
set_option maxRecDepth 100000 in
theorem dk13_c (s : Value) (n i : Nat) (f : Nat → Bool) (t : Bool) (w : World) (hs : SpecSet w s n f t) (hn : n ≤ 6000) (hin : i < n) (hi : i ≤ 2500) (k : Nat) (hk : k ≤ 2500) :
    Calls Try.prog 13 #[s, .agg #[.int .i64 13, .int .i64 i, .int .i64 k]] w fun e w' => ∃ s', e = .returned (.tuple #[s', .bool true]) ∧ SpecSet w' s' (i + 1) f true ∧ Kept [] w w' := by
  obtain ⟨b, c, rfl⟩ := hs.shape
  have D0 := DoB.start w b c n t 13 i k
  have hB1 : ¬ (k : Int) < 0 := by omega
  have hB2 : ¬ (2500 : Int) < (k : Int) := by omega
  have k0 : Kept [] w (((w.alloc (.cells #[.slice (some ⟨b, 0, none⟩) n c, .bool t] 28)).alloc (.cells #[.int .i64 13, .int .i64 i, .int .i64 k] 34)).alloc (.cells #[.slice none 0 0, .bool false] 28)) := (((Kept.refl _ _).alloc _).alloc _).alloc _
  have h3 : ¬ (6000 : Int) < (n : Int) := by omega
  have h1 : ¬ (i : Int) < 0 := by omega
  have h2 : ¬ (2500 : Int) < (i : Int) := by omega
  have h4 : ¬ (n : Int) ≤ (i : Int) := by omega
  go_enter Try.func13, Try.ntmps13
  go_wp2_with fail
  refine (from_c n _ rfl 23 #[.agg #[.slice (some ⟨b, 0, none⟩) n c, .bool t]] #[] _ _ (by omega) callFunc_At (at_closure _ n f t _ (hs.kept k0) n)).mono ?_
  rintro e w1 ⟨b1, rfl, r1, n1, k1⟩
  have D1 := D0.kept k1
  have hs' := hs.kept (k0.trans0 k1)
  obtain ⟨a0, a1, a2, a3, a4, a5, a6, a7, a8⟩ := D1.cells
  obtain ⟨l1, l2, l3⟩ := D1.lt
  have hb1w : w.heap.size ≤ b1 := by simp at n1; omega
  have hb1z : b1 < w1.heap.size := r1.lt
  go_wp2_with fail
  refine (from_c (i + 1) _ (by omega) 23 #[.agg #[.slice (some ⟨b, 0, none⟩) n c, .bool t]] #[] _ _ (by omega) callFunc_At (at_closure _ n f t _ (hs'.kept ((Kept.refl _ _).alloc _)) _)).mono ?_
  rintro e w2 ⟨b2, rfl, r2, n2, k2⟩
  have kz : Kept [] w1 (w1.alloc (.cells #[.slice (some ⟨b1, 0, none⟩) n n, .bool t] 28)) := (Kept.refl _ _).alloc _
  have gz := k2.heap (by simp) (heap_alloc_new w1 (.cells #[.slice (some ⟨b1, 0, none⟩) n n, .bool t] 28))
  have D2 := (D1.kept kz).kept k2
  have hZ : w.heap.size + 1 + 1 < w1.heap.size := l3
  have hb2w : w.heap.size ≤ b2 := by have := k1.size; simp at n2 this; omega
  clear a0 a1 a2 a3 a4 a5 a6 a7 a8
  have hbz := r2.ne gz (by decide)
  have hb2 := r2.ne D2.2.2 (by decide)
  obtain ⟨z0, z1, z2, z3, z4, z5⟩ := box2 gz (.slice (some ⟨b2, 0, none⟩) (i + 1) (i + 1)) (.bool true)
  have gW := setCell_heap_same (o := 1) (setCell_heap_same (o := 0) gz (.slice (some ⟨b2, 0, none⟩) (i + 1) (i + 1))) (.bool true)
  have DW := (D2.other (o := 0) hZ (.slice (some ⟨b2, 0, none⟩) (i + 1) (i + 1))).other (o := 1) hZ (.bool true)
  have rW := (r2.other (o := 0) hbz (.slice (some ⟨b2, 0, none⟩) (i + 1) (i + 1))).other (o := 1) hbz (.bool true)
  have kV : Kept [] w ((w2.setCell ⟨w1.heap.size, 0, none⟩ (.slice (some ⟨b2, 0, none⟩) (i + 1) (i + 1))).setCell ⟨w1.heap.size, 1, none⟩ (.bool true)) :=
    ((((k0.trans0 k1).trans0 kz).trans0 k2).setCell (by right; simp; omega) _).setCell (by right; simp; omega) _
  have hD := DW.2.2
  obtain ⟨v0, v1, _, _, _, _⟩ := box2 gW (.bool true) (.bool true)
  obtain ⟨y0, y1, y2, y3, y4, y5⟩ := box2 hD (.slice (some ⟨b2, 0, none⟩) (i + 1) (i + 1)) (.bool true)
  go_wp2_with fail
  refine bodyPost_ret (v := .tuple #[.agg #[.slice (some ⟨b2, 0, none⟩) (i + 1) (i + 1), .bool true], .bool true]) (by simp [results, Try.results13, go_sem, y4, y5]) rfl ⟨_, rfl, ?_, (kV.setCell (by right; simp; omega) _).setCell (by right; simp; omega) _⟩
  exact ⟨b2, i + 1, rfl, ((rW.other hb2 _).other hb2 _).congr fun j hj => by rw [decide_eq_true (show j < n by omega), Bool.true_and]⟩

set_option maxHeartbeats 2000000 in
set_option maxRecDepth 100000 in
theorem dk13u_c (s : Value) (n i : Nat) (f : Nat → Bool) (t : Bool) (w : World) (hs : SpecSet w s n f t) (hn : n ≤ 6000) (hin : n ≤ i) (hi : i ≤ 2500) (k : Nat) (hk : k ≤ 2500) :
    Calls Try.prog 13 #[s, .agg #[.int .i64 13, .int .i64 i, .int .i64 k]] w fun e w' => e = .returned (.tuple #[s, .bool false]) ∧ Kept [] w w' := by
  obtain ⟨b, c, rfl⟩ := hs.shape
  have D0 := DoB.start w b c n t 13 i k
  have hB1 : ¬ (k : Int) < 0 := by omega
  have hB2 : ¬ (2500 : Int) < (k : Int) := by omega
  have k0 : Kept [] w (((w.alloc (.cells #[.slice (some ⟨b, 0, none⟩) n c, .bool t] 28)).alloc (.cells #[.int .i64 13, .int .i64 i, .int .i64 k] 34)).alloc (.cells #[.slice none 0 0, .bool false] 28)) := (((Kept.refl _ _).alloc _).alloc _).alloc _
  have h3 : ¬ (6000 : Int) < (n : Int) := by omega
  have h1 : ¬ (i : Int) < 0 := by omega
  have h2 : ¬ (2500 : Int) < (i : Int) := by omega
  have h4 : (n : Int) ≤ (i : Int) := by omega
  go_enter Try.func13, Try.ntmps13
  go_wp2_with fail
  refine (from_c n _ rfl 23 #[.agg #[.slice (some ⟨b, 0, none⟩) n c, .bool t]] #[] _ _ (by omega) callFunc_At (at_closure _ n f t _ (hs.kept k0) n)).mono ?_
  rintro e w1 ⟨b1, rfl, r1, n1, k1⟩
  have D1 := D0.kept k1
  have hs' := hs.kept (k0.trans0 k1)
  obtain ⟨a0, a1, a2, a3, a4, a5, a6, a7, a8⟩ := D1.cells
  obtain ⟨l1, l2, l3⟩ := D1.lt
  have hb1w : w.heap.size ≤ b1 := by simp at n1; omega
  have hb1z : b1 < w1.heap.size := r1.lt
  obtain ⟨y4, y5⟩ := box2A D1.2.2 (.slice (some ⟨b, 0, none⟩) n c) (.bool t) (.cells #[.slice (some ⟨b1, 0, none⟩) n n, .bool t] 28)
  have kV := k0.trans0 k1
  go_wp2_with fail
  refine bodyPost_ret (v := .tuple #[.agg #[.slice (some ⟨b, 0, none⟩) n c, .bool t], .bool false]) (by simp [results, Try.results13, go_sem, y4, y5]) rfl ⟨rfl, (((kV.setCell (by right; simp; omega) _).setCell (by right; simp; omega) _).alloc _)⟩

set_option maxHeartbeats 2000000 in
set_option maxRecDepth 100000 in
theorem dk8_c (s : Value) (n i : Nat) (f : Nat → Bool) (t : Bool) (w : World) (hs : SpecSet w s n f t) (hn : n ≤ 6000) (hin : i < n) (hi : i ≤ 2500) (k : Nat) (hk : k ≤ 2500) :
    Calls Try.prog 13 #[s, .agg #[.int .i64 8, .int .i64 i, .int .i64 k]] w fun e w' => ∃ s', e = .returned (.tuple #[s', .bool true]) ∧ SpecSet w' s' (lst (fun j => (decide (j < i) && fAt n f j) || (decide (i < j) && fAt n f ((j : Int) - 1))) (n + 1)) (fun j => (decide (j < i) && fAt n f j) || (decide (i < j) && fAt n f ((j : Int) - 1))) false ∧ Kept [] w w' := by
  obtain ⟨b, c, rfl⟩ := hs.shape
  have D0 := DoB.start w b c n t 8 i k
  have hB1 : ¬ (k : Int) < 0 := by omega
  have hB2 : ¬ (2500 : Int) < (k : Int) := by omega
  have k0 : Kept [] w (((w.alloc (.cells #[.slice (some ⟨b, 0, none⟩) n c, .bool t] 28)).alloc (.cells #[.int .i64 8, .int .i64 i, .int .i64 k] 34)).alloc (.cells #[.slice none 0 0, .bool false] 28)) := (((Kept.refl _ _).alloc _).alloc _).alloc _
  have h3 : ¬ (6000 : Int) < (n : Int) := by omega
  have h1 : ¬ (i : Int) < 0 := by omega
  have h2 : ¬ (2500 : Int) < (i : Int) := by omega
  have h4 : ¬ (n : Int) ≤ (i : Int) := by omega
  go_enter Try.func13, Try.ntmps13
  go_wp2_with fail
  refine (from_c n _ rfl 23 #[.agg #[.slice (some ⟨b, 0, none⟩) n c, .bool t]] #[] _ _ (by omega) callFunc_At (at_closure _ n f t _ (hs.kept k0) n)).mono ?_
  rintro e w1 ⟨b1, rfl, r1, n1, k1⟩
  have D1 := D0.kept k1
  have hs' := hs.kept (k0.trans0 k1)
  obtain ⟨a0, a1, a2, a3, a4, a5, a6, a7, a8⟩ := D1.cells
  obtain ⟨l1, l2, l3⟩ := D1.lt
  have hb1w : w.heap.size ≤ b1 := by simp at n1; omega
  have hb1z : b1 < w1.heap.size := r1.lt
  go_wp2_with fail
  have kz : Kept [] w1 (w1.alloc (.cells #[.slice (some ⟨b1, 0, none⟩) n n, .bool t] 28)) := (Kept.refl _ _).alloc _
  have D2 := D1.kept kz
  have hs2 := hs'.kept kz
  refine (from_c (n + 1) _ (by omega) 35 #[] #[.pointer (some ⟨w.heap.size + 1, 0, none⟩), .pointer (some ⟨w.heap.size, 0, none⟩)] (fun j => (decide (j < i) && fAt n f j) || (decide (i < j) && fAt n f ((j : Int) - 1))) _ (by omega) (fun args w => by kernel_rfl) (fun j w' hj q => cl8_c w.heap.size b c n j i f t _ _ w' (D2.kept q) (hs2.kept q) (by omega) (by omega))).mono ?_
  rintro e w2 ⟨b2, rfl, r2, n2, k2⟩
  have D3 := D2.kept k2
  obtain ⟨p0, p1, p2, p3, p4, p5, p6, p7, p8⟩ := D3.cells
  obtain ⟨m1, m2, m3⟩ := D3.lt
  go_wp2_with fail
  refine (least_c _ (n + 1) (fun j => (decide (j < i) && fAt n f j) || (decide (i < j) && fAt n f ((j : Int) - 1))) true _ ⟨b2, n + 1, rfl, r2⟩ (by omega)).mono ?_
  rintro e w9 ⟨s9, rfl, ⟨b9, c9, rfl, r9⟩, k9⟩
  have hq := lst_le (fun j => (decide (j < i) && fAt n f j) || (decide (i < j) && fAt n f ((j : Int) - 1))) (n + 1)
  obtain ⟨q9, hql⟩ : ∃ q9, lst (fun j => (decide (j < i) && fAt n f j) || (decide (i < j) && fAt n f ((j : Int) - 1))) (n + 1) = q9 := ⟨_, rfl⟩
  rw [hql] at r9 hq ⊢
  have hD9 := k9.heap (by simp) D3.2.2
  have hb9 := r9.ne hD9 (by decide)
  have kV := ((((k0.trans0 k1).trans0 kz).trans0 k2)).trans0 k9
  have HQ := Lib.hid hql
  clear hql
  obtain ⟨y0, y1, y2, y3, y4, y5⟩ := box2 hD9 (.slice (some ⟨b9, 0, none⟩) q9 c9) (.bool false)
  go_wp2_with fail
  refine bodyPost_ret (v := .tuple #[.agg #[.slice (some ⟨b9, 0, none⟩) q9 c9, .bool false], .bool true]) (by simp [results, Try.results13, go_sem, y4, y5]) rfl ⟨_, rfl, ?_, (kV.setCell (by right; simp; omega) _).setCell (by right; simp; omega) _⟩
  rw [HQ.out]
  exact ⟨b9, c9, rfl, (r9.other hb9 _).other hb9 _⟩

set_option maxHeartbeats 2000000 in
set_option maxRecDepth 100000 in
theorem dk9_c (s : Value) (n i : Nat) (f : Nat → Bool) (t : Bool) (w : World) (hs : SpecSet w s n f t) (hn : n ≤ 6000) (hin : i < n) (hi : i ≤ 2500) (k : Nat) (hk : k ≤ 2500) :
    Calls Try.prog 13 #[s, .agg #[.int .i64 9, .int .i64 i, .int .i64 k]] w fun e w' => ∃ s', e = .returned (.tuple #[s', .bool true]) ∧ SpecSet w' s' (lst (fun j => (decide (j < i) && fAt n f j) || (decide (i ≤ j) && fAt n f ((j : Int) + 1))) (n)) (fun j => (decide (j < i) && fAt n f j) || (decide (i ≤ j) && fAt n f ((j : Int) + 1))) false ∧ Kept [] w w' := by
  obtain ⟨b, c, rfl⟩ := hs.shape
  have D0 := DoB.start w b c n t 9 i k
  have hB1 : ¬ (k : Int) < 0 := by omega
  have hB2 : ¬ (2500 : Int) < (k : Int) := by omega
  have k0 : Kept [] w (((w.alloc (.cells #[.slice (some ⟨b, 0, none⟩) n c, .bool t] 28)).alloc (.cells #[.int .i64 9, .int .i64 i, .int .i64 k] 34)).alloc (.cells #[.slice none 0 0, .bool false] 28)) := (((Kept.refl _ _).alloc _).alloc _).alloc _
  have h3 : ¬ (6000 : Int) < (n : Int) := by omega
  have h1 : ¬ (i : Int) < 0 := by omega
  have h2 : ¬ (2500 : Int) < (i : Int) := by omega
  have h4 : ¬ (n : Int) ≤ (i : Int) := by omega
  go_enter Try.func13, Try.ntmps13
  go_wp2_with fail
  refine (from_c n _ rfl 23 #[.agg #[.slice (some ⟨b, 0, none⟩) n c, .bool t]] #[] _ _ (by omega) callFunc_At (at_closure _ n f t _ (hs.kept k0) n)).mono ?_
  rintro e w1 ⟨b1, rfl, r1, n1, k1⟩
  have D1 := D0.kept k1
  have hs' := hs.kept (k0.trans0 k1)
  obtain ⟨a0, a1, a2, a3, a4, a5, a6, a7, a8⟩ := D1.cells
  obtain ⟨l1, l2, l3⟩ := D1.lt
  have hb1w : w.heap.size ≤ b1 := by simp at n1; omega
  have hb1z : b1 < w1.heap.size := r1.lt
  go_wp2_with fail
  have kz : Kept [] w1 (w1.alloc (.cells #[.slice (some ⟨b1, 0, none⟩) n n, .bool t] 28)) := (Kept.refl _ _).alloc _
  have D2 := D1.kept kz
  have hs2 := hs'.kept kz
  refine (from_c (n) _ (by omega) 36 #[] #[.pointer (some ⟨w.heap.size + 1, 0, none⟩), .pointer (some ⟨w.heap.size, 0, none⟩)] (fun j => (decide (j < i) && fAt n f j) || (decide (i ≤ j) && fAt n f ((j : Int) + 1))) _ (by omega) (fun args w => by kernel_rfl) (fun j w' hj q => cl9_c w.heap.size b c n j i f t _ _ w' (D2.kept q) (hs2.kept q) (by omega) (by omega))).mono ?_
  rintro e w2 ⟨b2, rfl, r2, n2, k2⟩
  have D3 := D2.kept k2
  obtain ⟨p0, p1, p2, p3, p4, p5, p6, p7, p8⟩ := D3.cells
  obtain ⟨m1, m2, m3⟩ := D3.lt
  go_wp2_with fail
  refine (least_c _ (n) (fun j => (decide (j < i) && fAt n f j) || (decide (i ≤ j) && fAt n f ((j : Int) + 1))) true _ ⟨b2, n, rfl, r2⟩ (by omega)).mono ?_
  rintro e w9 ⟨s9, rfl, ⟨b9, c9, rfl, r9⟩, k9⟩
  have hq := lst_le (fun j => (decide (j < i) && fAt n f j) || (decide (i ≤ j) && fAt n f ((j : Int) + 1))) (n)
  obtain ⟨q9, hql⟩ : ∃ q9, lst (fun j => (decide (j < i) && fAt n f j) || (decide (i ≤ j) && fAt n f ((j : Int) + 1))) (n) = q9 := ⟨_, rfl⟩
  rw [hql] at r9 hq ⊢
  have hD9 := k9.heap (by simp) D3.2.2
  have hb9 := r9.ne hD9 (by decide)
  have kV := ((((k0.trans0 k1).trans0 kz).trans0 k2)).trans0 k9
  have HQ := Lib.hid hql
  clear hql
  obtain ⟨y0, y1, y2, y3, y4, y5⟩ := box2 hD9 (.slice (some ⟨b9, 0, none⟩) q9 c9) (.bool false)
  go_wp2_with fail
  refine bodyPost_ret (v := .tuple #[.agg #[.slice (some ⟨b9, 0, none⟩) q9 c9, .bool false], .bool true]) (by simp [results, Try.results13, go_sem, y4, y5]) rfl ⟨_, rfl, ?_, (kV.setCell (by right; simp; omega) _).setCell (by right; simp; omega) _⟩
  rw [HQ.out]
  exact ⟨b9, c9, rfl, (r9.other hb9 _).other hb9 _⟩

set_option maxHeartbeats 2000000 in
set_option maxRecDepth 100000 in
theorem dk8u_c (s : Value) (n i : Nat) (f : Nat → Bool) (t : Bool) (w : World) (hs : SpecSet w s n f t) (hn : n ≤ 6000) (hin : n ≤ i) (hi : i ≤ 2500) (k : Nat) (hk : k ≤ 2500) :
    Calls Try.prog 13 #[s, .agg #[.int .i64 8, .int .i64 i, .int .i64 k]] w fun e w' => e = .returned (.tuple #[s, .bool false]) ∧ Kept [] w w' := by
  obtain ⟨b, c, rfl⟩ := hs.shape
  have D0 := DoB.start w b c n t 8 i k
  have hB1 : ¬ (k : Int) < 0 := by omega
  have hB2 : ¬ (2500 : Int) < (k : Int) := by omega
  have k0 : Kept [] w (((w.alloc (.cells #[.slice (some ⟨b, 0, none⟩) n c, .bool t] 28)).alloc (.cells #[.int .i64 8, .int .i64 i, .int .i64 k] 34)).alloc (.cells #[.slice none 0 0, .bool false] 28)) := (((Kept.refl _ _).alloc _).alloc _).alloc _
  have h3 : ¬ (6000 : Int) < (n : Int) := by omega
  have h1 : ¬ (i : Int) < 0 := by omega
  have h2 : ¬ (2500 : Int) < (i : Int) := by omega
  have h4 : (n : Int) ≤ (i : Int) := by omega
  go_enter Try.func13, Try.ntmps13
  go_wp2_with fail
  refine (from_c n _ rfl 23 #[.agg #[.slice (some ⟨b, 0, none⟩) n c, .bool t]] #[] _ _ (by omega) callFunc_At (at_closure _ n f t _ (hs.kept k0) n)).mono ?_
  rintro e w1 ⟨b1, rfl, r1, n1, k1⟩
  have D1 := D0.kept k1
  have hs' := hs.kept (k0.trans0 k1)
  obtain ⟨a0, a1, a2, a3, a4, a5, a6, a7, a8⟩ := D1.cells
  obtain ⟨l1, l2, l3⟩ := D1.lt
  have hb1w : w.heap.size ≤ b1 := by simp at n1; omega
  have hb1z : b1 < w1.heap.size := r1.lt
  obtain ⟨y4, y5⟩ := box2A D1.2.2 (.slice (some ⟨b, 0, none⟩) n c) (.bool t) (.cells #[.slice (some ⟨b1, 0, none⟩) n n, .bool t] 28)
  have kV := k0.trans0 k1
  go_wp2_with fail
  refine bodyPost_ret (v := .tuple #[.agg #[.slice (some ⟨b, 0, none⟩) n c, .bool t], .bool false]) (by simp [results, Try.results13, go_sem, y4, y5]) rfl ⟨rfl, (((kV.setCell (by right; simp; omega) _).setCell (by right; simp; omega) _).alloc _)⟩

set_option maxHeartbeats 2000000 in
set_option maxRecDepth 100000 in
theorem dk9u_c (s : Value) (n i : Nat) (f : Nat → Bool) (t : Bool) (w : World) (hs : SpecSet w s n f t) (hn : n ≤ 6000) (hin : n ≤ i) (hi : i ≤ 2500) (k : Nat) (hk : k ≤ 2500) :
    Calls Try.prog 13 #[s, .agg #[.int .i64 9, .int .i64 i, .int .i64 k]] w fun e w' => e = .returned (.tuple #[s, .bool false]) ∧ Kept [] w w' := by
  obtain ⟨b, c, rfl⟩ := hs.shape
  have D0 := DoB.start w b c n t 9 i k
  have hB1 : ¬ (k : Int) < 0 := by omega
  have hB2 : ¬ (2500 : Int) < (k : Int) := by omega
  have k0 : Kept [] w (((w.alloc (.cells #[.slice (some ⟨b, 0, none⟩) n c, .bool t] 28)).alloc (.cells #[.int .i64 9, .int .i64 i, .int .i64 k] 34)).alloc (.cells #[.slice none 0 0, .bool false] 28)) := (((Kept.refl _ _).alloc _).alloc _).alloc _
  have h3 : ¬ (6000 : Int) < (n : Int) := by omega
  have h1 : ¬ (i : Int) < 0 := by omega
  have h2 : ¬ (2500 : Int) < (i : Int) := by omega
  have h4 : (n : Int) ≤ (i : Int) := by omega
  go_enter Try.func13, Try.ntmps13
  go_wp2_with fail
  refine (from_c n _ rfl 23 #[.agg #[.slice (some ⟨b, 0, none⟩) n c, .bool t]] #[] _ _ (by omega) callFunc_At (at_closure _ n f t _ (hs.kept k0) n)).mono ?_
  rintro e w1 ⟨b1, rfl, r1, n1, k1⟩
  have D1 := D0.kept k1
  have hs' := hs.kept (k0.trans0 k1)
  obtain ⟨a0, a1, a2, a3, a4, a5, a6, a7, a8⟩ := D1.cells
  obtain ⟨l1, l2, l3⟩ := D1.lt
  have hb1w : w.heap.size ≤ b1 := by simp at n1; omega
  have hb1z : b1 < w1.heap.size := r1.lt
  obtain ⟨y4, y5⟩ := box2A D1.2.2 (.slice (some ⟨b, 0, none⟩) n c) (.bool t) (.cells #[.slice (some ⟨b1, 0, none⟩) n n, .bool t] 28)
  have kV := k0.trans0 k1
  go_wp2_with fail
  refine bodyPost_ret (v := .tuple #[.agg #[.slice (some ⟨b, 0, none⟩) n c, .bool t], .bool false]) (by simp [results, Try.results13, go_sem, y4, y5]) rfl ⟨rfl, (((kV.setCell (by right; simp; omega) _).setCell (by right; simp; omega) _).alloc _)⟩

end Go.Proofs.Ytiaghdnhapiioaa

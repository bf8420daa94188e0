/-
  The contracts of the reference's Do where the length is not told: inserting, deleting, shifting.
-/
import Derived.Test.YtfdddnpmgaoddaaCl
namespace Go.Proofs.Ytfdddnpmgaoddaa
set_option linter.unusedSimpArgs false
set_option linter.unusedVariables false
open Go.RowKit

set_option maxHeartbeats 2000000 in
set_option maxRecDepth 100000 in
theorem do8_c (s : Value) (n i : Nat) (f : Nat → Bool) (t : Bool) (w : World) (hs : SpecSet w s n f t) (hn : n ≤ 6000) (hin : i < n) (hi : i ≤ 2500) :
    Calls Try.prog 22 #[s, .agg #[.int .i64 8, .int .i64 i, .int .i64 0]] w fun e w' => ∃ (s' : Value) (m : Nat) (F : Nat → Bool), e = .returned (.tuple #[s', .bool true]) ∧ SpecSet w' s' m F false ∧ m ≤ 9000 ∧ onL m F = onL (n + 1) (fun j => if j < i then f j else !(j == i) && f (j - 1)) ∧ Kept [] w w' := by
  obtain ⟨b, c, rfl⟩ := hs.shape
  have D0 := DoB.start w b c n t 8 i 0
  have k0 : Kept [] w (((w.alloc (.cells #[.slice (some ⟨b, 0, none⟩) n c, .bool t] 28)).alloc (.cells #[.int .i64 8, .int .i64 i, .int .i64 0] 38)).alloc (.cells #[.slice none 0 0, .bool false] 28)) := (((Kept.refl _ _).alloc _).alloc _).alloc _
  have h3 : ¬ (6000 : Int) < (n : Int) := by omega
  have h1 : ¬ (i : Int) < 0 := by omega
  have h2 : ¬ (2500 : Int) < (i : Int) := by omega
  have h4 : ¬ (n : Int) ≤ (i : Int) := by omega
  go_enter Try.func22, Try.ntmps22
  go_wp2_with fail
  refine (from_c n _ rfl 18 #[.agg #[.slice (some ⟨b, 0, none⟩) n c, .bool t]] #[] _ _ (by omega) callFunc_At (at_closure _ n f t _ (hs.kept k0) n)).mono ?_
  rintro e w1 ⟨b1, rfl, r1, n1, k1⟩
  have D1 := D0.kept k1
  have hs' := hs.kept (k0.trans0 k1)
  obtain ⟨a0, a1, a2, a3, a4, a5, a6, a7, a8⟩ := D1.cells
  obtain ⟨l1, l2, l3⟩ := D1.lt
  have hb1w : w.heap.size ≤ b1 := by simp at n1; omega
  have hb1z : b1 < w1.heap.size := r1.lt
  go_wp2_with fail
  have kz : Kept [] w1 (w1.alloc (.cells #[.slice (some ⟨b1, 0, none⟩) n n, .bool t] 28)) := (Kept.refl _ _).alloc _
  have D2 := D1.kept kz
  have hs2 := hs'.kept kz
  refine (from_c (n + 1) _ (by omega) 45 #[] #[.pointer (some ⟨w.heap.size + 1, 0, none⟩), .pointer (some ⟨w.heap.size, 0, none⟩)] (fun j => (decide (j < i) && fAt n f j) || (decide (i < j) && fAt n f ((j : Int) - 1))) _ (by omega) (fun args w => by kernel_rfl) (fun j w' hj q => cl8_c w.heap.size b c n j i f t _ _ w' (D2.kept q) (hs2.kept q) (by omega) (by omega))).mono ?_
  rintro e w2 ⟨b2, rfl, r2, n2, k2⟩
  have D3 := D2.kept k2
  obtain ⟨p0, p1, p2, p3, p4, p5, p6, p7, p8⟩ := D3.cells
  obtain ⟨m1, m2, m3⟩ := D3.lt
  go_wp2_with fail
  refine (least_c _ (n + 1) (fun j => (decide (j < i) && fAt n f j) || (decide (i < j) && fAt n f ((j : Int) - 1))) true _ ⟨b2, n + 1, rfl, r2⟩ (by omega)).mono ?_
  rintro e w9 ⟨s9, rfl, ⟨b9, c9, rfl, r9⟩, k9⟩
  have hq := lst_le (fun j => (decide (j < i) && fAt n f j) || (decide (i < j) && fAt n f ((j : Int) - 1))) (n + 1)
  have hql := onL_lst (fun j => (decide (j < i) && fAt n f j) || (decide (i < j) && fAt n f ((j : Int) - 1))) (n + 1)
  have hD9 := k9.heap (by simp) D3.2.2
  have hb9 := r9.ne hD9 (by decide)
  have kV := ((((k0.trans0 k1).trans0 kz).trans0 k2)).trans0 k9
  generalize lst (fun j => (decide (j < i) && fAt n f j) || (decide (i < j) && fAt n f ((j : Int) - 1))) (n + 1) = q at *
  have HQ := Lib.hid hql
  clear hql
  obtain ⟨y0, y1, y2, y3, y4, y5⟩ := box2 hD9 (.slice (some ⟨b9, 0, none⟩) q c9) (.bool false)
  go_wp2_with fail
  refine bodyPost_ret (v := .tuple #[.agg #[.slice (some ⟨b9, 0, none⟩) q c9, .bool false], .bool true]) (by simp [results, Try.results22, go_sem, y4, y5]) rfl ⟨_, q, fun j => (decide (j < i) && fAt n f j) || (decide (i < j) && fAt n f ((j : Int) - 1)), rfl, ⟨b9, c9, rfl, (r9.other hb9 _).other hb9 _⟩, by omega, ?_, (kV.setCell (by right; simp; omega) _).setCell (by right; simp; omega) _⟩
  rw [HQ.out]
  exact onL_ins n i f hin

set_option maxHeartbeats 2000000 in
set_option maxRecDepth 100000 in
theorem do9_c (s : Value) (n i : Nat) (f : Nat → Bool) (t : Bool) (w : World) (hs : SpecSet w s n f t) (hn : n ≤ 6000) (hin : i < n) (hi : i ≤ 2500) :
    Calls Try.prog 22 #[s, .agg #[.int .i64 9, .int .i64 i, .int .i64 0]] w fun e w' => ∃ (s' : Value) (m : Nat) (F : Nat → Bool), e = .returned (.tuple #[s', .bool true]) ∧ SpecSet w' s' m F false ∧ m ≤ 9000 ∧ onL m F = onL (n - 1) (fun j => if j < i then f j else f (j + 1)) ∧ Kept [] w w' := by
  obtain ⟨b, c, rfl⟩ := hs.shape
  have D0 := DoB.start w b c n t 9 i 0
  have k0 : Kept [] w (((w.alloc (.cells #[.slice (some ⟨b, 0, none⟩) n c, .bool t] 28)).alloc (.cells #[.int .i64 9, .int .i64 i, .int .i64 0] 38)).alloc (.cells #[.slice none 0 0, .bool false] 28)) := (((Kept.refl _ _).alloc _).alloc _).alloc _
  have h3 : ¬ (6000 : Int) < (n : Int) := by omega
  have h1 : ¬ (i : Int) < 0 := by omega
  have h2 : ¬ (2500 : Int) < (i : Int) := by omega
  have h4 : ¬ (n : Int) ≤ (i : Int) := by omega
  go_enter Try.func22, Try.ntmps22
  go_wp2_with fail
  refine (from_c n _ rfl 18 #[.agg #[.slice (some ⟨b, 0, none⟩) n c, .bool t]] #[] _ _ (by omega) callFunc_At (at_closure _ n f t _ (hs.kept k0) n)).mono ?_
  rintro e w1 ⟨b1, rfl, r1, n1, k1⟩
  have D1 := D0.kept k1
  have hs' := hs.kept (k0.trans0 k1)
  obtain ⟨a0, a1, a2, a3, a4, a5, a6, a7, a8⟩ := D1.cells
  obtain ⟨l1, l2, l3⟩ := D1.lt
  have hb1w : w.heap.size ≤ b1 := by simp at n1; omega
  have hb1z : b1 < w1.heap.size := r1.lt
  go_wp2_with fail
  have kz : Kept [] w1 (w1.alloc (.cells #[.slice (some ⟨b1, 0, none⟩) n n, .bool t] 28)) := (Kept.refl _ _).alloc _
  have D2 := D1.kept kz
  have hs2 := hs'.kept kz
  refine (from_c (n) _ (by omega) 46 #[] #[.pointer (some ⟨w.heap.size + 1, 0, none⟩), .pointer (some ⟨w.heap.size, 0, none⟩)] (fun j => (decide (j < i) && fAt n f j) || (decide (i ≤ j) && fAt n f ((j : Int) + 1))) _ (by omega) (fun args w => by kernel_rfl) (fun j w' hj q => cl9_c w.heap.size b c n j i f t _ _ w' (D2.kept q) (hs2.kept q) (by omega) (by omega))).mono ?_
  rintro e w2 ⟨b2, rfl, r2, n2, k2⟩
  have D3 := D2.kept k2
  obtain ⟨p0, p1, p2, p3, p4, p5, p6, p7, p8⟩ := D3.cells
  obtain ⟨m1, m2, m3⟩ := D3.lt
  go_wp2_with fail
  refine (least_c _ (n) (fun j => (decide (j < i) && fAt n f j) || (decide (i ≤ j) && fAt n f ((j : Int) + 1))) true _ ⟨b2, n, rfl, r2⟩ (by omega)).mono ?_
  rintro e w9 ⟨s9, rfl, ⟨b9, c9, rfl, r9⟩, k9⟩
  have hq := lst_le (fun j => (decide (j < i) && fAt n f j) || (decide (i ≤ j) && fAt n f ((j : Int) + 1))) (n)
  have hql := onL_lst (fun j => (decide (j < i) && fAt n f j) || (decide (i ≤ j) && fAt n f ((j : Int) + 1))) (n)
  have hD9 := k9.heap (by simp) D3.2.2
  have hb9 := r9.ne hD9 (by decide)
  have kV := ((((k0.trans0 k1).trans0 kz).trans0 k2)).trans0 k9
  generalize lst (fun j => (decide (j < i) && fAt n f j) || (decide (i ≤ j) && fAt n f ((j : Int) + 1))) (n) = q at *
  have HQ := Lib.hid hql
  clear hql
  obtain ⟨y0, y1, y2, y3, y4, y5⟩ := box2 hD9 (.slice (some ⟨b9, 0, none⟩) q c9) (.bool false)
  go_wp2_with fail
  refine bodyPost_ret (v := .tuple #[.agg #[.slice (some ⟨b9, 0, none⟩) q c9, .bool false], .bool true]) (by simp [results, Try.results22, go_sem, y4, y5]) rfl ⟨_, q, fun j => (decide (j < i) && fAt n f j) || (decide (i ≤ j) && fAt n f ((j : Int) + 1)), rfl, ⟨b9, c9, rfl, (r9.other hb9 _).other hb9 _⟩, by omega, ?_, (kV.setCell (by right; simp; omega) _).setCell (by right; simp; omega) _⟩
  rw [HQ.out]
  exact onL_del n i f hin

set_option maxHeartbeats 2000000 in
set_option maxRecDepth 100000 in
theorem do8u_c (s : Value) (n i : Nat) (f : Nat → Bool) (t : Bool) (w : World) (hs : SpecSet w s n f t) (hn : n ≤ 6000) (hin : n ≤ i) (hi : i ≤ 2500) :
    Calls Try.prog 22 #[s, .agg #[.int .i64 8, .int .i64 i, .int .i64 0]] w fun e w' => e = .returned (.tuple #[s, .bool false]) ∧ Kept [] w w' := by
  obtain ⟨b, c, rfl⟩ := hs.shape
  have D0 := DoB.start w b c n t 8 i 0
  have k0 : Kept [] w (((w.alloc (.cells #[.slice (some ⟨b, 0, none⟩) n c, .bool t] 28)).alloc (.cells #[.int .i64 8, .int .i64 i, .int .i64 0] 38)).alloc (.cells #[.slice none 0 0, .bool false] 28)) := (((Kept.refl _ _).alloc _).alloc _).alloc _
  have h3 : ¬ (6000 : Int) < (n : Int) := by omega
  have h1 : ¬ (i : Int) < 0 := by omega
  have h2 : ¬ (2500 : Int) < (i : Int) := by omega
  have h4 : (n : Int) ≤ (i : Int) := by omega
  go_enter Try.func22, Try.ntmps22
  go_wp2_with fail
  refine (from_c n _ rfl 18 #[.agg #[.slice (some ⟨b, 0, none⟩) n c, .bool t]] #[] _ _ (by omega) callFunc_At (at_closure _ n f t _ (hs.kept k0) n)).mono ?_
  rintro e w1 ⟨b1, rfl, r1, n1, k1⟩
  have D1 := D0.kept k1
  have hs' := hs.kept (k0.trans0 k1)
  obtain ⟨a0, a1, a2, a3, a4, a5, a6, a7, a8⟩ := D1.cells
  obtain ⟨l1, l2, l3⟩ := D1.lt
  have hb1w : w.heap.size ≤ b1 := by simp at n1; omega
  have hb1z : b1 < w1.heap.size := r1.lt
  obtain ⟨y4, y5⟩ := box2A D1.2.2 (.slice (some ⟨b, 0, none⟩) n c) (.bool t) (.cells #[.slice (some ⟨b1, 0, none⟩) n n, .bool t] 28)
  have kV := k0.trans0 k1
  go_wp2_with fail
  refine bodyPost_ret (v := .tuple #[.agg #[.slice (some ⟨b, 0, none⟩) n c, .bool t], .bool false]) (by simp [results, Try.results22, go_sem, y4, y5]) rfl ⟨rfl, (((kV.setCell (by right; simp; omega) _).setCell (by right; simp; omega) _).alloc _)⟩

set_option maxHeartbeats 2000000 in
set_option maxRecDepth 100000 in
theorem do9u_c (s : Value) (n i : Nat) (f : Nat → Bool) (t : Bool) (w : World) (hs : SpecSet w s n f t) (hn : n ≤ 6000) (hin : n ≤ i) (hi : i ≤ 2500) :
    Calls Try.prog 22 #[s, .agg #[.int .i64 9, .int .i64 i, .int .i64 0]] w fun e w' => e = .returned (.tuple #[s, .bool false]) ∧ Kept [] w w' := by
  obtain ⟨b, c, rfl⟩ := hs.shape
  have D0 := DoB.start w b c n t 9 i 0
  have k0 : Kept [] w (((w.alloc (.cells #[.slice (some ⟨b, 0, none⟩) n c, .bool t] 28)).alloc (.cells #[.int .i64 9, .int .i64 i, .int .i64 0] 38)).alloc (.cells #[.slice none 0 0, .bool false] 28)) := (((Kept.refl _ _).alloc _).alloc _).alloc _
  have h3 : ¬ (6000 : Int) < (n : Int) := by omega
  have h1 : ¬ (i : Int) < 0 := by omega
  have h2 : ¬ (2500 : Int) < (i : Int) := by omega
  have h4 : (n : Int) ≤ (i : Int) := by omega
  go_enter Try.func22, Try.ntmps22
  go_wp2_with fail
  refine (from_c n _ rfl 18 #[.agg #[.slice (some ⟨b, 0, none⟩) n c, .bool t]] #[] _ _ (by omega) callFunc_At (at_closure _ n f t _ (hs.kept k0) n)).mono ?_
  rintro e w1 ⟨b1, rfl, r1, n1, k1⟩
  have D1 := D0.kept k1
  have hs' := hs.kept (k0.trans0 k1)
  obtain ⟨a0, a1, a2, a3, a4, a5, a6, a7, a8⟩ := D1.cells
  obtain ⟨l1, l2, l3⟩ := D1.lt
  have hb1w : w.heap.size ≤ b1 := by simp at n1; omega
  have hb1z : b1 < w1.heap.size := r1.lt
  obtain ⟨y4, y5⟩ := box2A D1.2.2 (.slice (some ⟨b, 0, none⟩) n c) (.bool t) (.cells #[.slice (some ⟨b1, 0, none⟩) n n, .bool t] 28)
  have kV := k0.trans0 k1
  go_wp2_with fail
  refine bodyPost_ret (v := .tuple #[.agg #[.slice (some ⟨b, 0, none⟩) n c, .bool t], .bool false]) (by simp [results, Try.results22, go_sem, y4, y5]) rfl ⟨rfl, (((kV.setCell (by right; simp; omega) _).setCell (by right; simp; omega) _).alloc _)⟩


end Go.Proofs.Ytfdddnpmgaoddaa

/-
  The contracts of the reference's Do: clearing, flipping, clearing all.
-/
import Derived.Test.YtfkgljohmgeocaaLeast
namespace Go.Proofs.Ytfkgljohmgeocaa
open Go.RowKit

set_option maxHeartbeats 2000000 in
set_option maxRecDepth 100000 in
theorem do1_c (s : Value) (n i : Nat) (f : Nat → Bool) (t : Bool) (w : World) (hs : SpecSet w s n f t) (hn : n ≤ 6000) (hi : i ≤ 2500) :
    Calls Try.prog 29 #[s, .agg #[.int .i64 1, .int .i64 i, .int .i64 0]] w fun e w' => ∃ s', e = .returned (.tuple #[s', .bool true]) ∧ SpecSet w' s' n (fun j => !(j == i) && f j) t ∧ Kept [] w w' := by
  obtain ⟨b, c, rfl⟩ := hs.shape
  have D0 := DoB.start w b c n t 1 i 0
  have k0 : Kept [] w (((w.alloc (.cells #[.slice (some ⟨b, 0, none⟩) n c, .bool t] 31)).alloc (.cells #[.int .i64 1, .int .i64 i, .int .i64 0] 48)).alloc (.cells #[.slice none 0 0, .bool false] 31)) := (((Kept.refl _ _).alloc _).alloc _).alloc _
  have h3 : ¬ (6000 : Int) < (n : Int) := by omega
  have h1 : ¬ (i : Int) < 0 := by omega
  have h2 : ¬ (2500 : Int) < (i : Int) := by omega
  by_cases hin : (i : Int) < (n : Int)
  · have i1 : (0 : Int) ≤ (i : Int) := by omega
    go_enter Try.func29, Try.ntmps29
    go_wp2_with fail
    refine (from_c n _ rfl 27 #[.agg #[.slice (some ⟨b, 0, none⟩) n c, .bool t]] #[] _ _ (by omega) callFunc_At (at_closure _ n f t _ (hs.kept k0) n)).mono ?_
    rintro e w1 ⟨b1, rfl, r1, n1, k1⟩
    have D1 := D0.kept k1
    have hs' := hs.kept (k0.trans0 k1)
    obtain ⟨a0, a1, a2, a3, a4, a5, a6, a7, a8⟩ := D1.cells
    obtain ⟨l1, l2, l3⟩ := D1.lt
    have hb1w : w.heap.size ≤ b1 := by simp at n1; omega
    have hb1z : b1 < w1.heap.size := r1.lt
    have kz : Kept [] w1 (w1.alloc (.cells #[.slice (some ⟨b1, 0, none⟩) n n, .bool t] 31)) := (Kept.refl _ _).alloc _
    have rz := r1.alloc (.cells #[.slice (some ⟨b1, 0, none⟩) n n, .bool t] 31)
    have hcl := rz.cell i (by omega)
    have hfz := rz.free i
    have gz := heap_alloc_new w1 (.cells #[.slice (some ⟨b1, 0, none⟩) n n, .bool t] 31)
    have hbz := rz.ne gz (by decide)
    have hb0 := r1.ne D1.1 (by decide)
    have hb1 := r1.ne D1.2.1 (by decide)
    have hb2 := r1.ne D1.2.2 (by decide)
    have DV := D1.others (o := i) hb0 hb1 hb2 (.bool false)
    have rV := r1.set i false (by omega)
    have kV := (k0.trans0 k1).setCell (p := ⟨b1, i, none⟩) (by right; exact hb1w) (.bool false)
    have hD := DV.2.2
    obtain ⟨y4, y5⟩ := box2A hD (.slice (some ⟨b1, 0, none⟩) n n) (.bool t) (.cells #[.slice (some ⟨b1, 0, none⟩) n n, .bool t] 31)
    go_wp2_with fail
    refine bodyPost_ret (v := .tuple #[.agg #[.slice (some ⟨b1, 0, none⟩) n n, .bool t], .bool true]) (by simp [results, Try.results29, go_sem, y4, y5]) rfl ⟨_, rfl, ?_, (((kV.setCell (by right; simp; omega) _).setCell (by right; simp; omega) _).alloc _)⟩
    refine ⟨b1, n, rfl, (((rV.other hb2 _).other hb2 _).alloc _).congr fun j hj => ?_⟩
    by_cases e : j = i
    · simp [e]
    · simp [e, hj]
  · go_enter Try.func29, Try.ntmps29
    go_wp2_with fail
    refine (from_c n _ rfl 27 #[.agg #[.slice (some ⟨b, 0, none⟩) n c, .bool t]] #[] _ _ (by omega) callFunc_At (at_closure _ n f t _ (hs.kept k0) n)).mono ?_
    rintro e w1 ⟨b1, rfl, r1, n1, k1⟩
    have D1 := D0.kept k1
    have hs' := hs.kept (k0.trans0 k1)
    obtain ⟨a0, a1, a2, a3, a4, a5, a6, a7, a8⟩ := D1.cells
    obtain ⟨l1, l2, l3⟩ := D1.lt
    have hb1w : w.heap.size ≤ b1 := by simp at n1; omega
    have hb1z : b1 < w1.heap.size := r1.lt
    have hb2 := r1.ne D1.2.2 (by decide)
    have kV := k0.trans0 k1
    have hD := D1.2.2
    obtain ⟨y4, y5⟩ := box2A hD (.slice (some ⟨b1, 0, none⟩) n n) (.bool t) (.cells #[.slice (some ⟨b1, 0, none⟩) n n, .bool t] 31)
    go_wp2_with fail
    refine bodyPost_ret (v := .tuple #[.agg #[.slice (some ⟨b1, 0, none⟩) n n, .bool t], .bool true]) (by simp [results, Try.results29, go_sem, y4, y5]) rfl ⟨_, rfl, ?_, (((kV.setCell (by right; simp; omega) _).setCell (by right; simp; omega) _).alloc _)⟩
    refine ⟨b1, n, rfl, (((r1.other hb2 _).other hb2 _).alloc _).congr fun j hj => ?_⟩
    have e : (j == i) = false := by simp; omega
    simp [e, hj]

set_option maxHeartbeats 2000000 in
set_option maxRecDepth 100000 in
theorem do10_c (s : Value) (n : Nat) (f : Nat → Bool) (t : Bool) (w : World) (hs : SpecSet w s n f t) (hn : n ≤ 6000) :
    Calls Try.prog 29 #[s, .agg #[.int .i64 10, .int .i64 0, .int .i64 0]] w fun e w' => ∃ s', e = .returned (.tuple #[s', .bool true]) ∧ SpecSet w' s' n (fun _ => false) t ∧ Kept [] w w' := by
  obtain ⟨b, c, rfl⟩ := hs.shape
  have D0 := DoB.start w b c n t 10 0 0
  have k0 : Kept [] w (((w.alloc (.cells #[.slice (some ⟨b, 0, none⟩) n c, .bool t] 31)).alloc (.cells #[.int .i64 10, .int .i64 0, .int .i64 0] 48)).alloc (.cells #[.slice none 0 0, .bool false] 31)) := (((Kept.refl _ _).alloc _).alloc _).alloc _
  have h3 : ¬ (6000 : Int) < (n : Int) := by omega
  go_enter Try.func29, Try.ntmps29
  go_wp2_with fail
  refine (from_c n _ rfl 27 #[.agg #[.slice (some ⟨b, 0, none⟩) n c, .bool t]] #[] _ _ (by omega) callFunc_At (at_closure _ n f t _ (hs.kept k0) n)).mono ?_
  rintro e w1 ⟨b1, rfl, r1, n1, k1⟩
  have D1 := D0.kept k1
  have hs' := hs.kept (k0.trans0 k1)
  obtain ⟨a0, a1, a2, a3, a4, a5, a6, a7, a8⟩ := D1.cells
  obtain ⟨l1, l2, l3⟩ := D1.lt
  have hb1w : w.heap.size ≤ b1 := by simp at n1; omega
  have hb1z : b1 < w1.heap.size := r1.lt
  go_wp2_with fail
  refine (from_c n _ rfl 54 #[] #[] (fun _ => false) _ (by omega) (fun args w => by kernel_rfl) (fun i w' _ _ => by go_enter Try.func54, Try.ntmps54; go_wp2; go_ret; exact ⟨rfl, Kept.refl _ _⟩)).mono ?_
  rintro e w2 ⟨b2, rfl, r2, n2, k2⟩
  have kz : Kept [] w1 (w1.alloc (.cells #[.slice (some ⟨b1, 0, none⟩) n n, .bool t] 31)) := (Kept.refl _ _).alloc _
  have gz := k2.heap (by simp) (heap_alloc_new w1 (.cells #[.slice (some ⟨b1, 0, none⟩) n n, .bool t] 31))
  have D2 := (D1.kept kz).kept k2
  have hZ : w.heap.size + 1 + 1 < w1.heap.size := l3
  have hb2w : w.heap.size ≤ b2 := by have := k1.size; simp at n2 this; omega
  clear a0 a1 a2 a3 a4 a5 a6 a7 a8
  have hbz := r2.ne gz (by decide)
  have hb2 := r2.ne D2.2.2 (by decide)
  obtain ⟨a0, a1, a2, a3, a4, a5, a6, a7, a8⟩ := D2.cells
  obtain ⟨z0, z1, z2, z3, z4, z5⟩ := box2 gz (.slice (some ⟨b2, 0, none⟩) n n) (.bool true)
  have gW := setCell_heap_same (o := 1) (setCell_heap_same (o := 0) gz (.slice (some ⟨b2, 0, none⟩) n n)) (.bool true)
  have DW := (D2.other (o := 0) hZ (.slice (some ⟨b2, 0, none⟩) n n)).other (o := 1) hZ (.bool true)
  have rW := (r2.other (o := 0) hbz (.slice (some ⟨b2, 0, none⟩) n n)).other (o := 1) hbz (.bool true)
  have kW : Kept [] w ((w2.setCell ⟨w1.heap.size, 0, none⟩ (.slice (some ⟨b2, 0, none⟩) n n)).setCell ⟨w1.heap.size, 1, none⟩ (.bool true)) :=
    ((((k0.trans0 k1).trans0 kz).trans0 k2).setCell (by right; simp; omega) _).setCell (by right; simp; omega) _
  have gV := setCell_heap_same (o := 1) gW (.bool t)
  have DV := DW.other (o := 1) hZ (.bool t)
  have rV := rW.other (o := 1) hbz (.bool t)
  have kV := kW.setCell (p := ⟨w1.heap.size, 1, none⟩) (by right; simp; omega) (.bool t)
  have hD := DV.2.2
  obtain ⟨_, u1, _, u3, _, _⟩ := box2 gW (.bool true) (.bool true)
  have a1' : ((w2.setCell ⟨w1.heap.size, 0, none⟩ (.slice (some ⟨b2, 0, none⟩) n n)).setCell ⟨w1.heap.size, 1, none⟩ (.bool true)).cell? ⟨w.heap.size, 1, none⟩ = some (.bool t) := DW.cells.2.1
  obtain ⟨v0, v1, _, _, _, _⟩ := box2 gV (.bool true) (.bool true)
  obtain ⟨y0, y1, y2, y3, y4, y5⟩ := box2 hD (.slice (some ⟨b2, 0, none⟩) n n) (.bool t)
  go_wp2_with fail
  refine bodyPost_ret (v := .tuple #[.agg #[.slice (some ⟨b2, 0, none⟩) n n, .bool t], .bool true]) (by simp [results, Try.results29, go_sem, y4, y5]) rfl ⟨_, rfl, ?_, (kV.setCell (by right; simp; omega) _).setCell (by right; simp; omega) _⟩
  exact ⟨b2, n, rfl, (rV.other hb2 _).other hb2 _⟩


end Go.Proofs.Ytfkgljohmgeocaa

/-
  The contract of the reference's Do: setting all.
-/
import Derived.Test.YtfdddnpmgaoddaaLeast
namespace Go.Proofs.Ytfdddnpmgaoddaa
set_option linter.unusedSimpArgs false
set_option linter.unusedVariables false
open Go.RowKit

set_option maxHeartbeats 2000000 in
set_option maxRecDepth 100000 in
theorem do11_c (s : Value) (n : Nat) (f : Nat → Bool) (t : Bool) (w : World) (hs : SpecSet w s n f t) (hn : n ≤ 6000) (ht : t = true) :
    Calls Try.prog 22 #[s, .agg #[.int .i64 11, .int .i64 0, .int .i64 0]] w fun e w' => ∃ s', e = .returned (.tuple #[s', .bool true]) ∧ SpecSet w' s' n (fun _ => true) true ∧ Kept [] w w' := by
  subst ht
  obtain ⟨b, c, rfl⟩ := hs.shape
  have D0 := DoB.start w b c n true 11 0 0
  have k0 : Kept [] w (((w.alloc (.cells #[.slice (some ⟨b, 0, none⟩) n c, .bool true] 28)).alloc (.cells #[.int .i64 11, .int .i64 0, .int .i64 0] 38)).alloc (.cells #[.slice none 0 0, .bool false] 28)) := (((Kept.refl _ _).alloc _).alloc _).alloc _
  have h3 : ¬ (6000 : Int) < (n : Int) := by omega
  go_enter Try.func22, Try.ntmps22
  go_wp2_with fail
  refine (from_c n _ rfl 18 #[.agg #[.slice (some ⟨b, 0, none⟩) n c, .bool true]] #[] _ _ (by omega) callFunc_At (at_closure _ n f true _ (hs.kept k0) n)).mono ?_
  rintro e w1 ⟨b1, rfl, r1, n1, k1⟩
  have D1 := D0.kept k1
  have hs' := hs.kept (k0.trans0 k1)
  obtain ⟨a0, a1, a2, a3, a4, a5, a6, a7, a8⟩ := D1.cells
  obtain ⟨l1, l2, l3⟩ := D1.lt
  have hb1w : w.heap.size ≤ b1 := by simp at n1; omega
  have hb1z : b1 < w1.heap.size := r1.lt
  go_wp2_with fail
  refine (from_c n _ rfl 48 #[] #[] (fun _ => true) _ (by omega) (fun args w => by kernel_rfl) (fun i w' _ _ => by go_enter Try.func48, Try.ntmps48; go_wp2; go_ret; exact ⟨rfl, Kept.refl _ _⟩)).mono ?_
  rintro e w2 ⟨b2, rfl, r2, n2, k2⟩
  have kz : Kept [] w1 (w1.alloc (.cells #[.slice (some ⟨b1, 0, none⟩) n n, .bool true] 28)) := (Kept.refl _ _).alloc _
  have gz := k2.heap (by simp) (heap_alloc_new w1 (.cells #[.slice (some ⟨b1, 0, none⟩) n n, .bool true] 28))
  have D2 := (D1.kept kz).kept k2
  have hZ : w.heap.size + 1 + 1 < w1.heap.size := l3
  have hb2w : w.heap.size ≤ b2 := by have := k1.size; simp at n2 this; omega
  clear a0 a1 a2 a3 a4 a5 a6 a7 a8
  have hbz := r2.ne gz (by decide)
  have hb2 := r2.ne D2.2.2 (by decide)
  obtain ⟨a0, a1, a2, a3, a4, a5, a6, a7, a8⟩ := D2.cells
  obtain ⟨z0, z1, z2, z3, z4, z5⟩ := box2 gz (.slice (some ⟨b2, 0, none⟩) n n) (.bool true)
  have gW := setCell_heap_same (o := 1) (setCell_heap_same (o := 0) gz (.slice (some ⟨b2, 0, none⟩) n n)) (.bool true)
  have DW := (D2.other (o := 0) hZ (.slice (some ⟨b2, 0, none⟩) n n)).other (o := 1) hZ (.bool true)
  have rW := (r2.other (o := 0) hbz (.slice (some ⟨b2, 0, none⟩) n n)).other (o := 1) hbz (.bool true)
  have kW : Kept [] w ((w2.setCell ⟨w1.heap.size, 0, none⟩ (.slice (some ⟨b2, 0, none⟩) n n)).setCell ⟨w1.heap.size, 1, none⟩ (.bool true)) :=
    ((((k0.trans0 k1).trans0 kz).trans0 k2).setCell (by right; simp; omega) _).setCell (by right; simp; omega) _
  have hD := DW.2.2
  have kV := kW
  obtain ⟨v0, v1, _, _, _, _⟩ := box2 gW (.bool true) (.bool true)
  obtain ⟨y0, y1, y2, y3, y4, y5⟩ := box2 hD (.slice (some ⟨b2, 0, none⟩) n n) (.bool true)
  go_wp2_with fail
  refine bodyPost_ret (v := .tuple #[.agg #[.slice (some ⟨b2, 0, none⟩) n n, .bool true], .bool true]) (by simp [results, Try.results22, go_sem, y4, y5]) rfl ⟨_, rfl, ?_, (kV.setCell (by right; simp; omega) _).setCell (by right; simp; omega) _⟩
  exact ⟨b2, n, rfl, (rW.other hb2 _).other hb2 _⟩


end Go.Proofs.Ytfdddnpmgaoddaa

/-
  The contract of laws' both, where a set is refused.
-/
import Derived.Test.YtiaghdnhapiioaaBoth
namespace Go.Proofs.Ytiaghdnhapiioaa
set_option linter.unusedSimpArgs false
set_option linter.unusedVariables false
open Go.RowKit

set_option maxHeartbeats 1000000 in
set_option maxRecDepth 100000 in
theorem both_bad2 (L1 L2 : Int) (v1 v2 : Value) (zs1 zs2 : List Int) (w : World) (hv1 : IntsZ w v1 zs1) (hv2 : IntsZ w v2 zs2) (hlen1 : zs1.length ≤ 9223372036854775807) (hlen2 : zs2.length ≤ 9223372036854775807)
    (hL1 : -9223372036854775808 ≤ L1) (hR1 : L1 ≤ 9223372036854775807) (hL2 : -9223372036854775808 ≤ L2) (hR2 : L2 ≤ 9223372036854775807) (hg1 : Good L1 zs1) (hg2 : ¬ Good L2 zs2) :
    Calls Try.prog 17 #[.agg #[.int .i64 L1, v1], .agg #[.int .i64 L2, v2]] w fun e w' => ∃ d1 m1 c1 t1 d2 m2 c2 t2, e = .returned (.tuple #[.agg #[.slice d1 m1 c1, .bool t1], .agg #[.slice d2 m2 c2, .bool t2], .bool false]) ∧ Kept [] w w' := by
  obtain ⟨ad1, e1, cp1, rfl⟩ : ∃ ad m cap, v1 = .slice ad m cap := by
    rcases hv1 with ⟨ad, cap, h3, h4⟩ | ⟨b, off, cap, h3, _, _⟩ <;> exact ⟨_, _, _, h3⟩
  obtain ⟨ad2, e2, cp2, rfl⟩ : ∃ ad m cap, v2 = .slice ad m cap := by
    rcases hv2 with ⟨ad, cap, h3, h4⟩ | ⟨b, off, cap, h3, _, _⟩ <;> exact ⟨_, _, _, h3⟩
  obtain ⟨W, hW⟩ : ∃ W, ((((w.alloc (.cells #[.int .i64 L1, .slice ad1 e1 cp1] 24)).alloc (.cells #[.int .i64 L2, .slice ad2 e2 cp2] 24)).alloc (.cells #[.slice none 0 0, .bool false] 28)).alloc (.cells #[.slice none 0 0, .bool false] 28)) = W := ⟨_, rfl⟩
  have k0 : Kept [] w W := by rw [← hW]; exact ((((Kept.refl _ _).alloc _).alloc _).alloc _).alloc _
  have gA : W.heap[w.heap.size + 1]? = some (.cells #[.int .i64 L2, .slice ad2 e2 cp2] 24 (0, 0)) := by
    rw [← hW]
    have := alloc_heap_old (alloc_heap_old (heap_alloc_new (w.alloc (.cells #[.int .i64 L1, .slice ad1 e1 cp1] 24)) (.cells #[.int .i64 L2, .slice ad2 e2 cp2] 24)) (.cells #[.slice none 0 0, .bool false] 28)) (.cells #[.slice none 0 0, .bool false] 28)
    simpa using this
  have gB : W.heap[w.heap.size + 1 + 1]? = some (.cells #[.slice none 0 0, .bool false] 28 (0, 0)) := by
    rw [← hW]
    have := alloc_heap_old (heap_alloc_new ((w.alloc (.cells #[.int .i64 L1, .slice ad1 e1 cp1] 24)).alloc (.cells #[.int .i64 L2, .slice ad2 e2 cp2] 24)) (.cells #[.slice none 0 0, .bool false] 28)) (.cells #[.slice none 0 0, .bool false] 28)
    simpa using this
  have gC : W.heap[w.heap.size + 1 + 1 + 1]? = some (.cells #[.slice none 0 0, .bool false] 28 (0, 0)) := by
    rw [← hW]
    have := heap_alloc_new (((w.alloc (.cells #[.int .i64 L1, .slice ad1 e1 cp1] 24)).alloc (.cells #[.int .i64 L2, .slice ad2 e2 cp2] 24)).alloc (.cells #[.slice none 0 0, .bool false] 28)) (.cells #[.slice none 0 0, .bool false] 28)
    simpa using this
  have HW := Lib.hid hW; clear hW
  go_enter Try.func17, Try.ntmps17
  go_wp2_with fail
  rw [HW.out]
  obtain ⟨ok1, ho1, hc1⟩ := set_any_c L1 _ zs1 _ (hv1.kept k0) hlen1 hL1 hR1
  obtain rfl : ok1 = true := (ho1.2 hg1)
  refine hc1.mono ?_
  rintro e w1 ⟨d1, m1, c1, t1, rfl, k1⟩
  clear hc1 ho1
  have hA1 := k1.heap (by simp) gA
  have a0 : w1.cell? ⟨w.heap.size + 1, 0, none⟩ = some (.int .i64 L2) := (cell_of_heap hA1).trans rfl
  have a1 : w1.cell? ⟨w.heap.size + 1, 1, none⟩ = some (.slice ad2 e2 cp2) := (cell_of_heap hA1).trans rfl
  have lA := lt_of_heap hA1
  have z1 : Kept [] w1 (w1.alloc (.cells #[.slice d1 m1 c1, .bool t1] 28)) := (Kept.refl _ _).alloc _
  have y1 := heap_alloc_new w1 (.cells #[.slice d1 m1 c1, .bool t1] 28)
  go_wp2_with fail
  obtain ⟨ok2, ho2, hc2⟩ := set_any_c L2 _ zs2 _ ((hv2.kept k0).kept (k1.trans0 z1)) hlen2 hL2 hR2
  obtain rfl : ok2 = false := by cases hok : ok2 with | true => exact absurd (ho2.1 hok) hg2 | false => rfl
  refine hc2.mono ?_
  rintro e w2 ⟨d2, m2, c2, t2, rfl, k2⟩
  clear hc2 ho2
  have z2 : Kept [] w2 (w2.alloc (.cells #[.slice d2 m2 c2, .bool t2] 28)) := (Kept.refl _ _).alloc _
  have y2 := heap_alloc_new w2 (.cells #[.slice d2 m2 c2, .bool t2] 28)
  have kk := ((k1.trans0 z1).trans0 k2).trans0 z2
  have fB := kk.heap (by simp) gB
  have fC := kk.heap (by simp) gC
  have f1 := z2.heap (by simp) (k2.heap (by simp) y1)
  have kA := k0.trans0 kk
  have n1 := lt_of_heap (k1.heap (by simp) gC)
  have n2 := k2.size
  simp at n2
  go_wp2_with fail
  generalize (w2.alloc (.cells #[.slice d2 m2 c2, .bool t2] 28)) = V at *
  obtain ⟨p0, p1, _, _, _, _⟩ := box2 f1 (.bool true) (.bool true)
  obtain ⟨q0, q1, _, _, _, _⟩ := box2 y2 (.bool true) (.bool true)
  obtain ⟨u0, u1, u2, u3, u4, u5⟩ := box2 fB (.slice d1 m1 c1) (.bool t1)
  obtain ⟨v0, v1, v2, v3, v4, v5⟩ := box2 fC (.slice d2 m2 c2) (.bool t2)
  generalize w1.heap.size = Z1 at *
  generalize w2.heap.size = Z2 at *
  refine wp_region_held_drew (S := fun w' => w'.cell? ⟨Z1, 0, none⟩ = some (.slice d1 m1 c1) ∧ w'.cell? ⟨Z1, 1, none⟩ = some (.bool t1) ∧ w'.cell? ⟨Z2, 0, none⟩ = some (.slice d2 m2 c2) ∧ w'.cell? ⟨Z2, 1, none⟩ = some (.bool t2)) (by kernel_rfl) ⟨p0, p1, q0, q1⟩ (fun hS => ?_)
  refine takeD 0 21 (v := ?_) rfl rfl (by kernel_rfl) (by kernel_rfl) (by kernel_rfl) (fun _ _ _ h => h) (Or.inl ⟨by kernel_rfl, ?_⟩) hS ?_
  rotate_left 1
  · (intro w' hw'; (try dsimp only at hw'); go_simp; try with_reducible rfl)
  simp only [List.setIfInBounds_toArray, List.set_cons_zero, List.set_cons_succ]
  refine takeD 1 22 (v := ?_) rfl rfl (by kernel_rfl) (by kernel_rfl) (by kernel_rfl) (fun _ _ _ h => h) (Or.inl ⟨by kernel_rfl, ?_⟩) hS ?_
  rotate_left 1
  · (intro w' hw'; (try dsimp only at hw'); go_simp; try with_reducible rfl)
  simp only [List.setIfInBounds_toArray, List.set_cons_zero, List.set_cons_succ]
  refine takeD 2 23 (v := ?_) rfl rfl (by kernel_rfl) (by kernel_rfl) (by kernel_rfl) (fun _ _ _ h => h) (Or.inl ⟨by kernel_rfl, ?_⟩) hS ?_
  rotate_left 1
  · (intro w' hw'; (try dsimp only at hw'); go_simp; try with_reducible rfl)
  simp only [List.setIfInBounds_toArray, List.set_cons_zero, List.set_cons_succ]
  refine takeD 3 24 (v := ?_) rfl rfl (by kernel_rfl) (by kernel_rfl) (by kernel_rfl) (fun _ _ _ h => h) (Or.inl ⟨by kernel_rfl, ?_⟩) hS ?_
  rotate_left 1
  · (intro w' hw'; (try dsimp only at hw'); go_simp; try with_reducible rfl)
  simp only [List.setIfInBounds_toArray, List.set_cons_zero, List.set_cons_succ]
  refine takeD 4 25 (v := ?_) rfl rfl (by kernel_rfl) (by kernel_rfl) (by kernel_rfl) (fun _ _ _ h => h) (Or.inl ⟨by kernel_rfl, ?_⟩) hS ?_
  rotate_left 1
  · (intro w' hw'; (try dsimp only at hw'); go_simp; try with_reducible rfl)
  simp only [List.setIfInBounds_toArray, List.set_cons_zero, List.set_cons_succ]
  refine takeD 5 26 (v := ?_) rfl rfl (by kernel_rfl) (by kernel_rfl) (by kernel_rfl) (fun _ _ _ h => h) (Or.inl ⟨by kernel_rfl, ?_⟩) hS ?_
  rotate_left 1
  · (intro w' hw'; (try dsimp only at hw'); go_simp; try with_reducible rfl)
  simp only [List.setIfInBounds_toArray, List.set_cons_zero, List.set_cons_succ]
  refine wpAnyH_ready (rs := [6]) (by kernel_rfl) (by simp) ?_
  refine AllReadyH.cons rfl (fun K hK => ?_) AllReadyH.nil
  go_simp
  refine hK.out _ _ ?_ (fun hS1 => ?_)
  · exact ⟨(World.cell?_setCell_other _ _ _ _ (by simp <;> omega)).trans ((World.cell?_setCell_other _ _ _ _ (by simp <;> omega)).trans hS.1), (World.cell?_setCell_other _ _ _ _ (by simp <;> omega)).trans ((World.cell?_setCell_other _ _ _ _ (by simp <;> omega)).trans hS.2.1), (World.cell?_setCell_other _ _ _ _ (by simp <;> omega)).trans ((World.cell?_setCell_other _ _ _ _ (by simp <;> omega)).trans hS.2.2.1), (World.cell?_setCell_other _ _ _ _ (by simp <;> omega)).trans ((World.cell?_setCell_other _ _ _ _ (by simp <;> omega)).trans hS.2.2.2)⟩
  clear hK K
  (try simp only [Act.put, List.setIfInBounds_toArray, List.set_cons_zero, List.set_cons_succ])
  have kU : Kept [] w ((V.setCell ⟨w.heap.size + 1 + 1, 0, none⟩ (.slice d1 m1 c1)).setCell ⟨w.heap.size + 1 + 1, 1, none⟩ (.bool t1)).drew := ((kA.setCell (by right; simp; omega) _).setCell (by right; simp; omega) _).drew
  have fC1 : ((V.setCell ⟨w.heap.size + 1 + 1, 0, none⟩ (.slice d1 m1 c1)).setCell ⟨w.heap.size + 1 + 1, 1, none⟩ (.bool t1)).drew.heap[w.heap.size + 1 + 1 + 1]? = some (.cells #[.slice none 0 0, .bool false] 28 (0, 0)) := setCell_heap_other (setCell_heap_other fC (by omega) _) (by omega) _
  have fB1 : ((V.setCell ⟨w.heap.size + 1 + 1, 0, none⟩ (.slice d1 m1 c1)).setCell ⟨w.heap.size + 1 + 1, 1, none⟩ (.bool t1)).drew.heap[w.heap.size + 1 + 1]? = some (.cells #[.slice d1 m1 c1, .bool t1] 28 (0, 0)) := setCell_heap_same (setCell_heap_same fB _) _
  clear u0 u1 u2 u3 u4 u5 v0 v1 v2 v3 v4 v5 p0 p1 q0 q1 f1 y1 y2 fB fC hS
  generalize ((V.setCell ⟨w.heap.size + 1 + 1, 0, none⟩ (.slice d1 m1 c1)).setCell ⟨w.heap.size + 1 + 1, 1, none⟩ (.bool t1)).drew = U at *
  obtain ⟨v0, v1, v2, v3, v4, v5⟩ := box2 fC1 (.slice d2 m2 c2) (.bool t2)
  refine wpAnyH_ready (rs := [7]) (by kernel_rfl) (by simp) ?_
  refine AllReadyH.cons rfl (fun K hK => ?_) AllReadyH.nil
  go_simp
  refine hK.out _ _ ?_ (fun hS2 => ?_)
  · exact ⟨(World.cell?_setCell_other _ _ _ _ (by simp <;> omega)).trans ((World.cell?_setCell_other _ _ _ _ (by simp <;> omega)).trans hS1.1), (World.cell?_setCell_other _ _ _ _ (by simp <;> omega)).trans ((World.cell?_setCell_other _ _ _ _ (by simp <;> omega)).trans hS1.2.1), (World.cell?_setCell_other _ _ _ _ (by simp <;> omega)).trans ((World.cell?_setCell_other _ _ _ _ (by simp <;> omega)).trans hS1.2.2.1), (World.cell?_setCell_other _ _ _ _ (by simp <;> omega)).trans ((World.cell?_setCell_other _ _ _ _ (by simp <;> omega)).trans hS1.2.2.2)⟩
  clear hK K
  (try simp only [Act.put, List.setIfInBounds_toArray, List.set_cons_zero, List.set_cons_succ])
  refine takeD 8 6 (v := ?_) rfl rfl (by kernel_rfl) (by kernel_rfl) (by kernel_rfl) (fun _ _ _ h => h) (Or.inl ⟨by kernel_rfl, ?_⟩) hS2 ?_
  rotate_left 1
  · (intro w' hw'; (try dsimp only at hw'); go_simp; try with_reducible rfl)
  simp only [List.setIfInBounds_toArray, List.set_cons_zero, List.set_cons_succ]
  refine wpAnyH_done (by kernel_rfl) ?_ _
  have fB2 := setCell_heap_other (o := 1) (setCell_heap_other (o := 0) fB1 (show w.heap.size + 1 + 1 ≠ w.heap.size + 1 + 1 + 1 by omega) (.slice d2 m2 c2)) (show w.heap.size + 1 + 1 ≠ w.heap.size + 1 + 1 + 1 by omega) (.bool t2)
  obtain ⟨r0, r1, _, _, _, _⟩ := box2 fB2 (.bool true) (.bool true)
  go_wp2
  exact bodyPost_ret (v := .tuple #[.agg #[.slice d1 m1 c1, .bool t1], .agg #[.slice d2 m2 c2, .bool t2], .bool false]) (by simp [results, Try.results17, go_sem, r0, r1, v4, v5]) rfl ⟨_, _, _, _, _, _, _, _, rfl, (kU.setCell (by right; simp; omega) _).setCell (by right; simp; omega) _⟩

set_option maxHeartbeats 1000000 in
set_option maxRecDepth 100000 in
theorem both_bad1 (L1 L2 : Int) (v1 v2 : Value) (zs1 zs2 : List Int) (w : World) (hv1 : IntsZ w v1 zs1) (hv2 : IntsZ w v2 zs2) (hlen1 : zs1.length ≤ 9223372036854775807) (hlen2 : zs2.length ≤ 9223372036854775807)
    (hL1 : -9223372036854775808 ≤ L1) (hR1 : L1 ≤ 9223372036854775807) (hL2 : -9223372036854775808 ≤ L2) (hR2 : L2 ≤ 9223372036854775807) (hg1 : ¬ Good L1 zs1) :
    Calls Try.prog 17 #[.agg #[.int .i64 L1, v1], .agg #[.int .i64 L2, v2]] w fun e w' => ∃ d1 m1 c1 t1 d2 m2 c2 t2, e = .returned (.tuple #[.agg #[.slice d1 m1 c1, .bool t1], .agg #[.slice d2 m2 c2, .bool t2], .bool false]) ∧ Kept [] w w' := by
  obtain ⟨ad1, e1, cp1, rfl⟩ : ∃ ad m cap, v1 = .slice ad m cap := by
    rcases hv1 with ⟨ad, cap, h3, h4⟩ | ⟨b, off, cap, h3, _, _⟩ <;> exact ⟨_, _, _, h3⟩
  obtain ⟨ad2, e2, cp2, rfl⟩ : ∃ ad m cap, v2 = .slice ad m cap := by
    rcases hv2 with ⟨ad, cap, h3, h4⟩ | ⟨b, off, cap, h3, _, _⟩ <;> exact ⟨_, _, _, h3⟩
  obtain ⟨W, hW⟩ : ∃ W, ((((w.alloc (.cells #[.int .i64 L1, .slice ad1 e1 cp1] 24)).alloc (.cells #[.int .i64 L2, .slice ad2 e2 cp2] 24)).alloc (.cells #[.slice none 0 0, .bool false] 28)).alloc (.cells #[.slice none 0 0, .bool false] 28)) = W := ⟨_, rfl⟩
  have k0 : Kept [] w W := by rw [← hW]; exact ((((Kept.refl _ _).alloc _).alloc _).alloc _).alloc _
  have gA : W.heap[w.heap.size + 1]? = some (.cells #[.int .i64 L2, .slice ad2 e2 cp2] 24 (0, 0)) := by
    rw [← hW]
    have := alloc_heap_old (alloc_heap_old (heap_alloc_new (w.alloc (.cells #[.int .i64 L1, .slice ad1 e1 cp1] 24)) (.cells #[.int .i64 L2, .slice ad2 e2 cp2] 24)) (.cells #[.slice none 0 0, .bool false] 28)) (.cells #[.slice none 0 0, .bool false] 28)
    simpa using this
  have gB : W.heap[w.heap.size + 1 + 1]? = some (.cells #[.slice none 0 0, .bool false] 28 (0, 0)) := by
    rw [← hW]
    have := alloc_heap_old (heap_alloc_new ((w.alloc (.cells #[.int .i64 L1, .slice ad1 e1 cp1] 24)).alloc (.cells #[.int .i64 L2, .slice ad2 e2 cp2] 24)) (.cells #[.slice none 0 0, .bool false] 28)) (.cells #[.slice none 0 0, .bool false] 28)
    simpa using this
  have gC : W.heap[w.heap.size + 1 + 1 + 1]? = some (.cells #[.slice none 0 0, .bool false] 28 (0, 0)) := by
    rw [← hW]
    have := heap_alloc_new (((w.alloc (.cells #[.int .i64 L1, .slice ad1 e1 cp1] 24)).alloc (.cells #[.int .i64 L2, .slice ad2 e2 cp2] 24)).alloc (.cells #[.slice none 0 0, .bool false] 28)) (.cells #[.slice none 0 0, .bool false] 28)
    simpa using this
  have HW := Lib.hid hW; clear hW
  go_enter Try.func17, Try.ntmps17
  go_wp2_with fail
  rw [HW.out]
  obtain ⟨ok1, ho1, hc1⟩ := set_any_c L1 _ zs1 _ (hv1.kept k0) hlen1 hL1 hR1
  obtain rfl : ok1 = false := by cases hok : ok1 with | true => exact absurd (ho1.1 hok) hg1 | false => rfl
  refine hc1.mono ?_
  rintro e w1 ⟨d1, m1, c1, t1, rfl, k1⟩
  clear hc1 ho1
  have hA1 := k1.heap (by simp) gA
  have a0 : w1.cell? ⟨w.heap.size + 1, 0, none⟩ = some (.int .i64 L2) := (cell_of_heap hA1).trans rfl
  have a1 : w1.cell? ⟨w.heap.size + 1, 1, none⟩ = some (.slice ad2 e2 cp2) := (cell_of_heap hA1).trans rfl
  have lA := lt_of_heap hA1
  have z1 : Kept [] w1 (w1.alloc (.cells #[.slice d1 m1 c1, .bool t1] 28)) := (Kept.refl _ _).alloc _
  have y1 := heap_alloc_new w1 (.cells #[.slice d1 m1 c1, .bool t1] 28)
  go_wp2_with fail
  obtain ⟨ok2, ho2, hc2⟩ := set_any_c L2 _ zs2 _ ((hv2.kept k0).kept (k1.trans0 z1)) hlen2 hL2 hR2
  refine hc2.mono ?_
  rintro e w2 ⟨d2, m2, c2, t2, rfl, k2⟩
  clear hc2 ho2
  have z2 : Kept [] w2 (w2.alloc (.cells #[.slice d2 m2 c2, .bool t2] 28)) := (Kept.refl _ _).alloc _
  have y2 := heap_alloc_new w2 (.cells #[.slice d2 m2 c2, .bool t2] 28)
  have kk := ((k1.trans0 z1).trans0 k2).trans0 z2
  have fB := kk.heap (by simp) gB
  have fC := kk.heap (by simp) gC
  have f1 := z2.heap (by simp) (k2.heap (by simp) y1)
  have kA := k0.trans0 kk
  have n1 := lt_of_heap (k1.heap (by simp) gC)
  have n2 := k2.size
  simp at n2
  go_wp2_with fail
  generalize (w2.alloc (.cells #[.slice d2 m2 c2, .bool t2] 28)) = V at *
  obtain ⟨p0, p1, _, _, _, _⟩ := box2 f1 (.bool true) (.bool true)
  obtain ⟨q0, q1, _, _, _, _⟩ := box2 y2 (.bool true) (.bool true)
  obtain ⟨u0, u1, u2, u3, u4, u5⟩ := box2 fB (.slice d1 m1 c1) (.bool t1)
  obtain ⟨v0, v1, v2, v3, v4, v5⟩ := box2 fC (.slice d2 m2 c2) (.bool t2)
  generalize w1.heap.size = Z1 at *
  generalize w2.heap.size = Z2 at *
  refine wp_region_held_drew (S := fun w' => w'.cell? ⟨Z1, 0, none⟩ = some (.slice d1 m1 c1) ∧ w'.cell? ⟨Z1, 1, none⟩ = some (.bool t1) ∧ w'.cell? ⟨Z2, 0, none⟩ = some (.slice d2 m2 c2) ∧ w'.cell? ⟨Z2, 1, none⟩ = some (.bool t2)) (by kernel_rfl) ⟨p0, p1, q0, q1⟩ (fun hS => ?_)
  refine takeD 0 21 (v := ?_) rfl rfl (by kernel_rfl) (by kernel_rfl) (by kernel_rfl) (fun _ _ _ h => h) (Or.inl ⟨by kernel_rfl, ?_⟩) hS ?_
  rotate_left 1
  · (intro w' hw'; (try dsimp only at hw'); go_simp; try with_reducible rfl)
  simp only [List.setIfInBounds_toArray, List.set_cons_zero, List.set_cons_succ]
  refine takeD 1 22 (v := ?_) rfl rfl (by kernel_rfl) (by kernel_rfl) (by kernel_rfl) (fun _ _ _ h => h) (Or.inl ⟨by kernel_rfl, ?_⟩) hS ?_
  rotate_left 1
  · (intro w' hw'; (try dsimp only at hw'); go_simp; try with_reducible rfl)
  simp only [List.setIfInBounds_toArray, List.set_cons_zero, List.set_cons_succ]
  refine takeD 2 23 (v := ?_) rfl rfl (by kernel_rfl) (by kernel_rfl) (by kernel_rfl) (fun _ _ _ h => h) (Or.inl ⟨by kernel_rfl, ?_⟩) hS ?_
  rotate_left 1
  · (intro w' hw'; (try dsimp only at hw'); go_simp; try with_reducible rfl)
  simp only [List.setIfInBounds_toArray, List.set_cons_zero, List.set_cons_succ]
  refine takeD 3 24 (v := ?_) rfl rfl (by kernel_rfl) (by kernel_rfl) (by kernel_rfl) (fun _ _ _ h => h) (Or.inl ⟨by kernel_rfl, ?_⟩) hS ?_
  rotate_left 1
  · (intro w' hw'; (try dsimp only at hw'); go_simp; try with_reducible rfl)
  simp only [List.setIfInBounds_toArray, List.set_cons_zero, List.set_cons_succ]
  refine takeD 4 25 (v := undef) rfl rfl (by kernel_rfl) (by kernel_rfl) (by kernel_rfl) (fun _ _ _ h => h) (Or.inr ⟨by kernel_rfl, rfl⟩) hS ?_
  simp only [List.setIfInBounds_toArray, List.set_cons_zero, List.set_cons_succ]
  refine takeD 5 26 (v := ?_) rfl rfl (by kernel_rfl) (by kernel_rfl) (by kernel_rfl) (fun _ _ _ h => h) (Or.inl ⟨by kernel_rfl, ?_⟩) hS ?_
  rotate_left 1
  · (intro w' hw'; (try dsimp only at hw'); go_simp; try with_reducible rfl)
  simp only [List.setIfInBounds_toArray, List.set_cons_zero, List.set_cons_succ]
  refine wpAnyH_ready (rs := [6]) (by kernel_rfl) (by simp) ?_
  refine AllReadyH.cons rfl (fun K hK => ?_) AllReadyH.nil
  go_simp
  refine hK.out _ _ ?_ (fun hS1 => ?_)
  · exact ⟨(World.cell?_setCell_other _ _ _ _ (by simp <;> omega)).trans ((World.cell?_setCell_other _ _ _ _ (by simp <;> omega)).trans hS.1), (World.cell?_setCell_other _ _ _ _ (by simp <;> omega)).trans ((World.cell?_setCell_other _ _ _ _ (by simp <;> omega)).trans hS.2.1), (World.cell?_setCell_other _ _ _ _ (by simp <;> omega)).trans ((World.cell?_setCell_other _ _ _ _ (by simp <;> omega)).trans hS.2.2.1), (World.cell?_setCell_other _ _ _ _ (by simp <;> omega)).trans ((World.cell?_setCell_other _ _ _ _ (by simp <;> omega)).trans hS.2.2.2)⟩
  clear hK K
  (try simp only [Act.put, List.setIfInBounds_toArray, List.set_cons_zero, List.set_cons_succ])
  have kU : Kept [] w ((V.setCell ⟨w.heap.size + 1 + 1, 0, none⟩ (.slice d1 m1 c1)).setCell ⟨w.heap.size + 1 + 1, 1, none⟩ (.bool t1)).drew := ((kA.setCell (by right; simp; omega) _).setCell (by right; simp; omega) _).drew
  have fC1 : ((V.setCell ⟨w.heap.size + 1 + 1, 0, none⟩ (.slice d1 m1 c1)).setCell ⟨w.heap.size + 1 + 1, 1, none⟩ (.bool t1)).drew.heap[w.heap.size + 1 + 1 + 1]? = some (.cells #[.slice none 0 0, .bool false] 28 (0, 0)) := setCell_heap_other (setCell_heap_other fC (by omega) _) (by omega) _
  have fB1 : ((V.setCell ⟨w.heap.size + 1 + 1, 0, none⟩ (.slice d1 m1 c1)).setCell ⟨w.heap.size + 1 + 1, 1, none⟩ (.bool t1)).drew.heap[w.heap.size + 1 + 1]? = some (.cells #[.slice d1 m1 c1, .bool t1] 28 (0, 0)) := setCell_heap_same (setCell_heap_same fB _) _
  clear u0 u1 u2 u3 u4 u5 v0 v1 v2 v3 v4 v5 p0 p1 q0 q1 f1 y1 y2 fB fC hS
  generalize ((V.setCell ⟨w.heap.size + 1 + 1, 0, none⟩ (.slice d1 m1 c1)).setCell ⟨w.heap.size + 1 + 1, 1, none⟩ (.bool t1)).drew = U at *
  obtain ⟨v0, v1, v2, v3, v4, v5⟩ := box2 fC1 (.slice d2 m2 c2) (.bool t2)
  refine wpAnyH_ready (rs := [7]) (by kernel_rfl) (by simp) ?_
  refine AllReadyH.cons rfl (fun K hK => ?_) AllReadyH.nil
  go_simp
  refine hK.out _ _ ?_ (fun hS2 => ?_)
  · exact ⟨(World.cell?_setCell_other _ _ _ _ (by simp <;> omega)).trans ((World.cell?_setCell_other _ _ _ _ (by simp <;> omega)).trans hS1.1), (World.cell?_setCell_other _ _ _ _ (by simp <;> omega)).trans ((World.cell?_setCell_other _ _ _ _ (by simp <;> omega)).trans hS1.2.1), (World.cell?_setCell_other _ _ _ _ (by simp <;> omega)).trans ((World.cell?_setCell_other _ _ _ _ (by simp <;> omega)).trans hS1.2.2.1), (World.cell?_setCell_other _ _ _ _ (by simp <;> omega)).trans ((World.cell?_setCell_other _ _ _ _ (by simp <;> omega)).trans hS1.2.2.2)⟩
  clear hK K
  (try simp only [Act.put, List.setIfInBounds_toArray, List.set_cons_zero, List.set_cons_succ])
  refine takeD 8 6 (v := ?_) rfl rfl (by kernel_rfl) (by kernel_rfl) (by kernel_rfl) (fun _ _ _ h => h) (Or.inl ⟨by kernel_rfl, ?_⟩) hS2 ?_
  rotate_left 1
  · (intro w' hw'; (try dsimp only at hw'); go_simp; try with_reducible rfl)
  simp only [List.setIfInBounds_toArray, List.set_cons_zero, List.set_cons_succ]
  refine wpAnyH_done (by kernel_rfl) ?_ _
  have fB2 := setCell_heap_other (o := 1) (setCell_heap_other (o := 0) fB1 (show w.heap.size + 1 + 1 ≠ w.heap.size + 1 + 1 + 1 by omega) (.slice d2 m2 c2)) (show w.heap.size + 1 + 1 ≠ w.heap.size + 1 + 1 + 1 by omega) (.bool t2)
  obtain ⟨r0, r1, _, _, _, _⟩ := box2 fB2 (.bool true) (.bool true)
  go_wp2
  exact bodyPost_ret (v := .tuple #[.agg #[.slice d1 m1 c1, .bool t1], .agg #[.slice d2 m2 c2, .bool t2], .bool false]) (by simp [results, Try.results17, go_sem, r0, r1, v4, v5]) rfl ⟨_, _, _, _, _, _, _, _, rfl, (kU.setCell (by right; simp; omega) _).setCell (by right; simp; omega) _⟩

end Go.Proofs.Ytiaghdnhapiioaa

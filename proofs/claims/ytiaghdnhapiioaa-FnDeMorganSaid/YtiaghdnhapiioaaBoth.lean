/-
  The contracts of laws' both, longer and of the functions of two sets, for every input.
-/
import Derived.Test.YtiaghdnhapiioaaMemo
import Derived.Test.YtiaghdnhapiioaaRow
namespace Go.Proofs.Ytiaghdnhapiioaa
set_option linter.unusedSimpArgs false
set_option linter.unusedVariables false
open Go.RowKit

theorem set_any_c (L : Int) (v : Value) (zs : List Int) (w : World) (hv : IntsZ w v zs) (hlen : zs.length ≤ 9223372036854775807) (hL : -9223372036854775808 ≤ L) (hL2 : L ≤ 9223372036854775807) :
    ∃ ok : Bool, (ok = true ↔ Good L zs) ∧ Calls Try.prog 11 #[.agg #[.int .i64 L, v]] w fun e w' => ∃ ad n c t, e = .returned (.tuple #[.agg #[.slice ad n c, .bool t], .bool ok]) ∧ Kept [] w w' := by
  by_cases hg : Good L zs
  · obtain ⟨Ln, on, rfl, q1, q2, q3, q4⟩ := hv.good hg
    refine ⟨true, Iff.intro (fun _ => hg) (fun _ => rfl), (setGood_c Ln v on w q4 q1 q2 q3).mono fun e w' ⟨s, he, hs, hk⟩ => ?_⟩
    obtain ⟨b, c, rfl⟩ := hs.shape
    exact ⟨_, _, _, _, he, hk⟩
  · exact ⟨false, Iff.intro (fun h => by cases h) (fun h => absurd h hg), (setBad_c L v zs w hv hg hlen hL hL2).mono fun e w' ⟨he, hk⟩ => ⟨_, _, _, _, he, hk⟩⟩


set_option maxHeartbeats 1000000 in
theorem both_good (L1 L2 : Nat) (v1 v2 : Value) (on1 on2 : List Nat) (w : World) (hv1 : IntsAt w v1 on1) (hv2 : IntsAt w v2 on2) (hL1 : L1 ≤ 2000) (hL2 : L2 ≤ 2000) (hlen1 : on1.length ≤ 400) (hlen2 : on2.length ≤ 400) (hon1 : ∀ x ∈ on1, x < 2500) (hon2 : ∀ x ∈ on2, x < 2500) :
    Calls Try.prog 17 #[.agg #[.int .i64 L1, v1], .agg #[.int .i64 L2, v2]] w fun e w' => ∃ s1 s2, e = .returned (.tuple #[s1, s2, .bool true]) ∧ SpecSet w' s1 (lenOf L1 on1) (memOf on1) true ∧ SpecSet w' s2 (lenOf L2 on2) (memOf on2) true ∧ Kept [] w w' := by
  obtain ⟨ad1, cp1, rfl⟩ := hv1.shape
  obtain ⟨ad2, cp2, rfl⟩ := hv2.shape
  obtain ⟨W, hW⟩ : ∃ W, ((((w.alloc (.cells #[.int .i64 L1, .slice ad1 on1.length cp1] 24)).alloc (.cells #[.int .i64 L2, .slice ad2 on2.length cp2] 24)).alloc (.cells #[.slice none 0 0, .bool false] 28)).alloc (.cells #[.slice none 0 0, .bool false] 28)) = W := ⟨_, rfl⟩
  have k0 : Kept [] w W := by rw [← hW]; exact ((((Kept.refl _ _).alloc _).alloc _).alloc _).alloc _
  have gA : W.heap[w.heap.size + 1]? = some (.cells #[.int .i64 L2, .slice ad2 on2.length cp2] 24 (0, 0)) := by
    rw [← hW]
    have := alloc_heap_old (alloc_heap_old (heap_alloc_new (w.alloc (.cells #[.int .i64 L1, .slice ad1 on1.length cp1] 24)) (.cells #[.int .i64 L2, .slice ad2 on2.length cp2] 24)) (.cells #[.slice none 0 0, .bool false] 28)) (.cells #[.slice none 0 0, .bool false] 28)
    simpa using this
  have gB : W.heap[w.heap.size + 1 + 1]? = some (.cells #[.slice none 0 0, .bool false] 28 (0, 0)) := by
    rw [← hW]
    have := alloc_heap_old (heap_alloc_new ((w.alloc (.cells #[.int .i64 L1, .slice ad1 on1.length cp1] 24)).alloc (.cells #[.int .i64 L2, .slice ad2 on2.length cp2] 24)) (.cells #[.slice none 0 0, .bool false] 28)) (.cells #[.slice none 0 0, .bool false] 28)
    simpa using this
  have gC : W.heap[w.heap.size + 1 + 1 + 1]? = some (.cells #[.slice none 0 0, .bool false] 28 (0, 0)) := by
    rw [← hW]
    have := heap_alloc_new (((w.alloc (.cells #[.int .i64 L1, .slice ad1 on1.length cp1] 24)).alloc (.cells #[.int .i64 L2, .slice ad2 on2.length cp2] 24)).alloc (.cells #[.slice none 0 0, .bool false] 28)) (.cells #[.slice none 0 0, .bool false] 28)
    simpa using this
  have HW := Lib.hid hW; clear hW
  go_enter Try.func17, Try.ntmps17
  go_wp2_with fail
  rw [HW.out]
  refine (setGood_c L1 _ on1 _ (hv1.kept k0) hL1 hlen1 hon1).mono ?_
  rintro e w1 ⟨s1, rfl, hs1, k1⟩
  obtain ⟨b1, c1, rfl⟩ := hs1.shape
  have hA1 := k1.heap (by simp) gA
  have a0 : w1.cell? ⟨w.heap.size + 1, 0, none⟩ = some (.int .i64 L2) := (cell_of_heap hA1).trans rfl
  have a1 : w1.cell? ⟨w.heap.size + 1, 1, none⟩ = some (.slice ad2 on2.length cp2) := (cell_of_heap hA1).trans rfl
  have lA := lt_of_heap hA1
  have z1 : Kept [] w1 (w1.alloc (.cells #[.slice (some ⟨b1, 0, none⟩) (lenOf L1 on1) c1, .bool true] 28)) := (Kept.refl _ _).alloc _
  have y1 := heap_alloc_new w1 (.cells #[.slice (some ⟨b1, 0, none⟩) (lenOf L1 on1) c1, .bool true] 28)
  go_wp2_with fail
  refine (setGood_c L2 _ on2 _ ((hv2.kept k0).kept (k1.trans0 z1)) hL2 hlen2 hon2).mono ?_
  rintro e w2 ⟨s2, rfl, hs2, k2⟩
  obtain ⟨b2, c2, rfl⟩ := hs2.shape
  have z2 : Kept [] w2 (w2.alloc (.cells #[.slice (some ⟨b2, 0, none⟩) (lenOf L2 on2) c2, .bool true] 28)) := (Kept.refl _ _).alloc _
  have y2 := heap_alloc_new w2 (.cells #[.slice (some ⟨b2, 0, none⟩) (lenOf L2 on2) c2, .bool true] 28)
  have kk := ((k1.trans0 z1).trans0 k2).trans0 z2
  have fB := kk.heap (by simp) gB
  have fC := kk.heap (by simp) gC
  have f1 := z2.heap (by simp) (k2.heap (by simp) y1)
  have hs1' := ((hs1.kept z1).kept k2).kept z2
  have hs2' := hs2.kept z2
  have kA := k0.trans0 kk
  have n1 := lt_of_heap (k1.heap (by simp) gC)
  have n2 := k2.size
  simp at n2
  go_wp2_with fail
  generalize (w2.alloc (.cells #[.slice (some ⟨b2, 0, none⟩) (lenOf L2 on2) c2, .bool true] 28)) = V at *
  obtain ⟨p0, p1, _, _, _, _⟩ := box2 f1 (.bool true) (.bool true)
  obtain ⟨q0, q1, _, _, _, _⟩ := box2 y2 (.bool true) (.bool true)
  obtain ⟨u0, u1, u2, u3, u4, u5⟩ := box2 fB (.slice (some ⟨b1, 0, none⟩) (lenOf L1 on1) c1) (.bool true)
  obtain ⟨v0, v1, v2, v3, v4, v5⟩ := box2 fC (.slice (some ⟨b2, 0, none⟩) (lenOf L2 on2) c2) (.bool true)
  generalize w1.heap.size = Z1 at *
  generalize w2.heap.size = Z2 at *
  refine wp_region_held_drew (S := fun w' => w'.cell? ⟨Z1, 0, none⟩ = some (.slice (some ⟨b1, 0, none⟩) (lenOf L1 on1) c1) ∧ w'.cell? ⟨Z1, 1, none⟩ = some (.bool true) ∧ w'.cell? ⟨Z2, 0, none⟩ = some (.slice (some ⟨b2, 0, none⟩) (lenOf L2 on2) c2) ∧ w'.cell? ⟨Z2, 1, none⟩ = some (.bool true)) (by kernel_rfl) ⟨p0, p1, q0, q1⟩ (fun hS => ?_)
  refine takeD 0 21 (v := ?_) rfl rfl (by kernel_rfl) (by kernel_rfl) (by kernel_rfl) (fun _ _ _ h => h) (Or.inl ⟨by kernel_rfl, ?_⟩) hS ?_
  rotate_left 1
  · (intro w' hw'; (try dsimp only at hw'); go_simp; try with_reducible rfl)
  simp only [List.setIfInBounds_toArray, List.set_cons_zero, List.set_cons_succ]
  refine takeD 1 22 (v := ?_) rfl rfl (by kernel_rfl) (by kernel_rfl) (by kernel_rfl) (fun _ _ _ h => h) (Or.inl ⟨by kernel_rfl, ?_⟩) hS ?_
  rotate_left 1
  · (intro w' hw'; (try dsimp only at hw'); go_simp; try with_reducible rfl)
  simp only [List.setIfInBounds_toArray, List.set_cons_zero, List.set_cons_succ]
  refine takeD 2 23 (v := ?_) rfl rfl (by kernel_rfl) (by kernel_rfl) (by kernel_rfl) (fun _ _ _ h => h) (Or.inl ⟨by kernel_rfl, ?_⟩) hS ?_
  rotate_left 1
  · (intro w' hw'; (try dsimp only at hw'); go_simp; try with_reducible rfl)
  simp only [List.setIfInBounds_toArray, List.set_cons_zero, List.set_cons_succ]
  refine takeD 3 24 (v := ?_) rfl rfl (by kernel_rfl) (by kernel_rfl) (by kernel_rfl) (fun _ _ _ h => h) (Or.inl ⟨by kernel_rfl, ?_⟩) hS ?_
  rotate_left 1
  · (intro w' hw'; (try dsimp only at hw'); go_simp; try with_reducible rfl)
  simp only [List.setIfInBounds_toArray, List.set_cons_zero, List.set_cons_succ]
  refine takeD 4 25 (v := ?_) rfl rfl (by kernel_rfl) (by kernel_rfl) (by kernel_rfl) (fun _ _ _ h => h) (Or.inl ⟨by kernel_rfl, ?_⟩) hS ?_
  rotate_left 1
  · (intro w' hw'; (try dsimp only at hw'); go_simp; try with_reducible rfl)
  simp only [List.setIfInBounds_toArray, List.set_cons_zero, List.set_cons_succ]
  refine takeD 5 26 (v := ?_) rfl rfl (by kernel_rfl) (by kernel_rfl) (by kernel_rfl) (fun _ _ _ h => h) (Or.inl ⟨by kernel_rfl, ?_⟩) hS ?_
  rotate_left 1
  · (intro w' hw'; (try dsimp only at hw'); go_simp; try with_reducible rfl)
  simp only [List.setIfInBounds_toArray, List.set_cons_zero, List.set_cons_succ]
  refine wpAnyH_ready (rs := [6]) (by kernel_rfl) (by simp) ?_
  refine AllReadyH.cons rfl (fun K hK => ?_) AllReadyH.nil
  go_simp
  refine hK.out _ _ ?_ (fun hS1 => ?_)
  · exact ⟨(World.cell?_setCell_other _ _ _ _ (by simp <;> omega)).trans ((World.cell?_setCell_other _ _ _ _ (by simp <;> omega)).trans hS.1), (World.cell?_setCell_other _ _ _ _ (by simp <;> omega)).trans ((World.cell?_setCell_other _ _ _ _ (by simp <;> omega)).trans hS.2.1), (World.cell?_setCell_other _ _ _ _ (by simp <;> omega)).trans ((World.cell?_setCell_other _ _ _ _ (by simp <;> omega)).trans hS.2.2.1), (World.cell?_setCell_other _ _ _ _ (by simp <;> omega)).trans ((World.cell?_setCell_other _ _ _ _ (by simp <;> omega)).trans hS.2.2.2)⟩
  clear hK K
  (try simp only [Act.put, List.setIfInBounds_toArray, List.set_cons_zero, List.set_cons_succ])
  have kU : Kept [] w ((V.setCell ⟨w.heap.size + 1 + 1, 0, none⟩ (.slice (some ⟨b1, 0, none⟩) (lenOf L1 on1) c1)).setCell ⟨w.heap.size + 1 + 1, 1, none⟩ (.bool true)).drew := ((kA.setCell (by right; simp; omega) _).setCell (by right; simp; omega) _).drew
  have fC1 : ((V.setCell ⟨w.heap.size + 1 + 1, 0, none⟩ (.slice (some ⟨b1, 0, none⟩) (lenOf L1 on1) c1)).setCell ⟨w.heap.size + 1 + 1, 1, none⟩ (.bool true)).drew.heap[w.heap.size + 1 + 1 + 1]? = some (.cells #[.slice none 0 0, .bool false] 28 (0, 0)) := setCell_heap_other (setCell_heap_other fC (by omega) _) (by omega) _
  have fB1 : ((V.setCell ⟨w.heap.size + 1 + 1, 0, none⟩ (.slice (some ⟨b1, 0, none⟩) (lenOf L1 on1) c1)).setCell ⟨w.heap.size + 1 + 1, 1, none⟩ (.bool true)).drew.heap[w.heap.size + 1 + 1]? = some (.cells #[.slice (some ⟨b1, 0, none⟩) (lenOf L1 on1) c1, .bool true] 28 (0, 0)) := setCell_heap_same (setCell_heap_same fB _) _
  have t1 : SpecSet ((V.setCell ⟨w.heap.size + 1 + 1, 0, none⟩ (.slice (some ⟨b1, 0, none⟩) (lenOf L1 on1) c1)).setCell ⟨w.heap.size + 1 + 1, 1, none⟩ (.bool true)).drew (.agg #[.slice (some ⟨b1, 0, none⟩) (lenOf L1 on1) c1, .bool true]) (lenOf L1 on1) (memOf on1) true :=
    (SpecSet.other (SpecSet.other hs1' fB (by decide) _) (setCell_heap_same fB _) (by decide) _).kept (Kept.refl [] _).drew
  have t2 : SpecSet ((V.setCell ⟨w.heap.size + 1 + 1, 0, none⟩ (.slice (some ⟨b1, 0, none⟩) (lenOf L1 on1) c1)).setCell ⟨w.heap.size + 1 + 1, 1, none⟩ (.bool true)).drew (.agg #[.slice (some ⟨b2, 0, none⟩) (lenOf L2 on2) c2, .bool true]) (lenOf L2 on2) (memOf on2) true :=
    (SpecSet.other (SpecSet.other hs2' fB (by decide) _) (setCell_heap_same fB _) (by decide) _).kept (Kept.refl [] _).drew
  clear hs1' hs2' hs1 hs2 u0 u1 u2 u3 u4 u5 v0 v1 v2 v3 v4 v5 p0 p1 q0 q1 f1 y1 y2 fB fC hS
  generalize ((V.setCell ⟨w.heap.size + 1 + 1, 0, none⟩ (.slice (some ⟨b1, 0, none⟩) (lenOf L1 on1) c1)).setCell ⟨w.heap.size + 1 + 1, 1, none⟩ (.bool true)).drew = U at *
  obtain ⟨v0, v1, v2, v3, v4, v5⟩ := box2 fC1 (.slice (some ⟨b2, 0, none⟩) (lenOf L2 on2) c2) (.bool true)
  refine wpAnyH_ready (rs := [7]) (by kernel_rfl) (by simp) ?_
  refine AllReadyH.cons rfl (fun K hK => ?_) AllReadyH.nil
  go_simp
  refine hK.out _ _ ?_ (fun hS2 => ?_)
  · exact ⟨(World.cell?_setCell_other _ _ _ _ (by simp <;> omega)).trans ((World.cell?_setCell_other _ _ _ _ (by simp <;> omega)).trans hS1.1), (World.cell?_setCell_other _ _ _ _ (by simp <;> omega)).trans ((World.cell?_setCell_other _ _ _ _ (by simp <;> omega)).trans hS1.2.1), (World.cell?_setCell_other _ _ _ _ (by simp <;> omega)).trans ((World.cell?_setCell_other _ _ _ _ (by simp <;> omega)).trans hS1.2.2.1), (World.cell?_setCell_other _ _ _ _ (by simp <;> omega)).trans ((World.cell?_setCell_other _ _ _ _ (by simp <;> omega)).trans hS1.2.2.2)⟩
  clear hK K
  (try simp only [Act.put, List.setIfInBounds_toArray, List.set_cons_zero, List.set_cons_succ])
  refine takeD 8 6 (v := ?_) rfl rfl (by kernel_rfl) (by kernel_rfl) (by kernel_rfl) (fun _ _ _ h => h) (Or.inl ⟨by kernel_rfl, ?_⟩) hS2 ?_
  rotate_left 1
  · (intro w' hw'; (try dsimp only at hw'); go_simp; try with_reducible rfl)
  simp only [List.setIfInBounds_toArray, List.set_cons_zero, List.set_cons_succ]
  refine wpAnyH_done (by kernel_rfl) ?_ _
  have fB2 := setCell_heap_other (o := 1) (setCell_heap_other (o := 0) fB1 (show w.heap.size + 1 + 1 ≠ w.heap.size + 1 + 1 + 1 by omega) (.slice (some ⟨b2, 0, none⟩) (lenOf L2 on2) c2)) (show w.heap.size + 1 + 1 ≠ w.heap.size + 1 + 1 + 1 by omega) (.bool true)
  obtain ⟨r0, r1, _, _, _, _⟩ := box2 fB2 (.bool true) (.bool true)
  go_wp2
  refine bodyPost_ret (v := .tuple #[.agg #[.slice (some ⟨b1, 0, none⟩) (lenOf L1 on1) c1, .bool true], .agg #[.slice (some ⟨b2, 0, none⟩) (lenOf L2 on2) c2, .bool true], .bool true]) (by simp [results, Try.results17, go_sem, r0, r1, v4, v5]) rfl ⟨_, _, rfl, ?_, ?_, (kU.setCell (by right; simp; omega) _).setCell (by right; simp; omega) _⟩
  · exact SpecSet.other (SpecSet.other t1 fC1 (by decide) _) (setCell_heap_same fC1 _) (by decide) _
  · exact SpecSet.other (SpecSet.other t2 fC1 (by decide) _) (setCell_heap_same fC1 _) (by decide) _

end Go.Proofs.Ytiaghdnhapiioaa

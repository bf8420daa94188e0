/-
  impl.Intersection.
-/
import Derived.Test.YtiaghdnhapiioaaIntsT
import Derived.Test.YtiaghdnhapiioaaComb
import Derived.Test.YtiaghdnhapiioaaMemo
import Derived.Test.YtiaghdnhapiioaaRow
namespace Go.Proofs.Ytiaghdnhapiioaa
set_option linter.unusedSimpArgs false
set_option linter.unusedVariables false
open Go.RowKit

set_option maxHeartbeats 2000000 in
theorem implIntersectionT_c (L1 L2 : Nat) (v1 v2 : Value) (on1 on2 : List Nat) (w : World) (hv1 : IntsAt w v1 on1) (hv2 : IntsAt w v2 on2) (hL1 : L1 ≤ 9000) (hL2 : L2 ≤ 9000) (hlen1 : on1.length ≤ 1000000) (hlen2 : on2.length ≤ 1000000) (hon1 : ∀ x ∈ on1, x < 9000) (hon2 : ∀ x ∈ on2, x < 9000) :
    Calls Try.prog 20 #[.agg #[.int .i64 L1, v1], .agg #[.int .i64 L2, v2]] w fun e w' => ∃ (M : Nat) (v' : Value), e = .returned (.agg #[.int .i64 M, v']) ∧ M = min (lenOf L1 on1) (lenOf L2 on2) ∧ M ≤ 9000 ∧ IntsT w' v' (onL M (fun j => memOf on1 j && memOf on2 j)) ∧ Kept [] w w' := by
  obtain ⟨ad1, cp1, rfl⟩ := hv1.shape
  obtain ⟨ad2, cp2, rfl⟩ := hv2.shape
  have hn1 := lenOf_le L1 on1 9000 hL1 hon1
  have hn2 := lenOf_le L2 on2 9000 hL2 hon2
  obtain ⟨W, hW⟩ : ∃ W, (((w.alloc (.cells #[.int .i64 L1, .slice ad1 on1.length cp1] 24)).alloc (.cells #[.int .i64 L2, .slice ad2 on2.length cp2] 24)).alloc (.cells #[.int .i64 0, .slice none 0 0] 24)) = W := ⟨_, rfl⟩
  have k0 : Kept [] w W := by rw [← hW]; exact (((Kept.refl _ _).alloc _).alloc _).alloc _
  have gA : W.heap[w.heap.size]? = some (.cells #[.int .i64 L1, .slice ad1 on1.length cp1] 24 (0, 0)) := by
    rw [← hW]
    exact alloc_heap_old (alloc_heap_old (heap_alloc_new w _) _) _
  have gB : W.heap[w.heap.size + 1]? = some (.cells #[.int .i64 L2, .slice ad2 on2.length cp2] 24 (0, 0)) := by
    rw [← hW]
    have := alloc_heap_old (heap_alloc_new (w.alloc (.cells #[.int .i64 L1, .slice ad1 on1.length cp1] 24)) (.cells #[.int .i64 L2, .slice ad2 on2.length cp2] 24)) (.cells #[.int .i64 0, .slice none 0 0] 24)
    simpa using this
  have gR : W.heap[w.heap.size + 1 + 1]? = some (.cells #[.int .i64 0, .slice none 0 0] 24 (0, 0)) := by
    rw [← hW]
    have := heap_alloc_new ((w.alloc (.cells #[.int .i64 L1, .slice ad1 on1.length cp1] 24)).alloc (.cells #[.int .i64 L2, .slice ad2 on2.length cp2] 24)) (.cells #[.int .i64 0, .slice none 0 0] 24)
    simpa using this
  have HW := Lib.hid hW; clear hW
  have hWs := lt_of_heap gR
  go_enter Try.func20, Try.ntmps20
  go_wp2
  rw [HW.out]
  have hv1' := hv1.kept k0
  have hv2' := hv2.kept k0
  obtain ⟨a0, a1, _, _, _, _⟩ := box2 gA (.bool true) (.bool true)
  obtain ⟨c0, c1, _, _, _, _⟩ := box2 gB (.bool true) (.bool true)
  refine wp_region_held_drew (S := fun w' => w'.cell? ⟨w.heap.size, 0, none⟩ = some (.int .i64 L1) ∧ w'.cell? ⟨w.heap.size, 1, none⟩ = some (.slice ad1 on1.length cp1) ∧ w'.cell? ⟨w.heap.size + 1, 0, none⟩ = some (.int .i64 L2) ∧ w'.cell? ⟨w.heap.size + 1, 1, none⟩ = some (.slice ad2 on2.length cp2)) (by kernel_rfl) ⟨a0, a1, c0, c1⟩ (fun hS => ?_)
  clear a0 a1 c0 c1
  refine takeD 0 5 (v := ?_) rfl rfl (by kernel_rfl) (by kernel_rfl) (by kernel_rfl) (fun _ _ _ h => h) (Or.inl ⟨by kernel_rfl, ?_⟩) hS ?_
  rotate_left 1
  · (intro w' hw'; (try dsimp only at hw'); go_simp; try with_reducible rfl)
  simp only [List.setIfInBounds_toArray, List.set_cons_zero, List.set_cons_succ]
  refine takeD 2 7 (v := ?_) rfl rfl (by kernel_rfl) (by kernel_rfl) (by kernel_rfl) (fun _ _ _ h => h) (Or.inl ⟨by kernel_rfl, ?_⟩) hS ?_
  rotate_left 1
  · (intro w' hw'; (try dsimp only at hw'); go_simp; try with_reducible rfl)
  simp only [List.setIfInBounds_toArray, List.set_cons_zero, List.set_cons_succ]
  refine wpAnyH_ready (rs := [1]) (by kernel_rfl) (by simp) ?_
  refine AllReadyH.cons rfl (fun K hK => ?_) AllReadyH.nil
  go_simp
  refine (build_c L1 _ on1 W.drew (hv1'.kept (Kept.refl [] W).drew) (by omega) (fun x hx => by have := hon1 x hx; omega) (by omega)).mono ?_
  rintro e w1 ⟨b1, g1, rfl, hb1, n1, n2, k1⟩
  have kS : ∀ {u u' : World} {T : List Nat}, (u.cell? ⟨w.heap.size, 0, none⟩ = some (.int .i64 L1) ∧ u.cell? ⟨w.heap.size, 1, none⟩ = some (.slice ad1 on1.length cp1) ∧ u.cell? ⟨w.heap.size + 1, 0, none⟩ = some (.int .i64 L2) ∧ u.cell? ⟨w.heap.size + 1, 1, none⟩ = some (.slice ad2 on2.length cp2)) → Kept [] u u' →
      (u'.cell? ⟨w.heap.size, 0, none⟩ = some (.int .i64 L1) ∧ u'.cell? ⟨w.heap.size, 1, none⟩ = some (.slice ad1 on1.length cp1) ∧ u'.cell? ⟨w.heap.size + 1, 0, none⟩ = some (.int .i64 L2) ∧ u'.cell? ⟨w.heap.size + 1, 1, none⟩ = some (.slice ad2 on2.length cp2)) :=
    fun h k => ⟨k.cell (by simp) h.1, k.cell (by simp) h.2.1, k.cell (by simp) h.2.2.1, k.cell (by simp) h.2.2.2⟩
  refine hK.out _ _ ?_ (fun hS1 => ?_)
  · exact kS (T := []) hS k1
  clear hK K
  (try simp only [Act.put, List.setIfInBounds_toArray, List.set_cons_zero, List.set_cons_succ])
  refine wpAnyH_ready (rs := [3]) (by kernel_rfl) (by simp) ?_
  refine AllReadyH.cons rfl (fun K hK => ?_) AllReadyH.nil
  go_simp
  refine (build_c L2 _ on2 w1 ((hv2'.kept (Kept.refl [] W).drew).kept k1) (by omega) (fun x hx => by have := hon2 x hx; omega) (by omega)).mono ?_
  rintro e w2 ⟨b2, g2, rfl, hb2, n3, n4, k2⟩
  refine hK.out _ _ ?_ (fun hS2 => ?_)
  · exact kS (T := []) hS1 k2
  clear hK K
  (try simp only [Act.put, List.setIfInBounds_toArray, List.set_cons_zero, List.set_cons_succ])
  refine wpAnyH_ready (rs := [4]) (by kernel_rfl) (by simp) ?_
  refine AllReadyH.cons rfl (fun K hK => ?_) AllReadyH.nil
  go_simp
  refine (intersection_c _ _ _ _ _ _ _ _ w2 (hb1.kept k2 (by simp) (by simp)) hb2 (by omega) (by omega)).mono ?_
  rintro e w3 ⟨b3, g3, rfl, hb3, n5, n6, k3⟩
  obtain ⟨M, hM⟩ : ∃ M, min (lenOf L1 on1) (lenOf L2 on2) = M := ⟨_, rfl⟩
  have hMb : M ≤ 9000 := by omega
  rw [hM] at hb3
  have HM := Lib.hid hM; clear hM
  refine hK.out _ _ ?_ (fun hS3 => ?_)
  · exact kS (T := []) hS2 k3
  clear hK K
  (try simp only [Act.put, List.setIfInBounds_toArray, List.set_cons_zero, List.set_cons_succ])
  refine wpAnyH_ready (rs := [5]) (by kernel_rfl) (by simp) ?_
  refine AllReadyH.cons rfl (fun K hK => ?_) AllReadyH.nil
  go_simp
  refine (told_c b3 g3 _ _ w3 hb3 (by omega)).mono ?_
  rintro e w4 ⟨v4, rfl, hown, k4⟩
  obtain ⟨ad, ln, cp, rfl⟩ := slice_of_owns hown
  refine hK.out _ _ ?_ (fun hS4 => ?_)
  · exact kS (T := []) hS3 k4
  clear hK K
  (try simp only [Act.put, List.setIfInBounds_toArray, List.set_cons_zero, List.set_cons_succ])
  have kk := (((((Kept.refl [] W).drew).trans0 k1).trans0 k2).trans0 k3).trans0 k4
  have fR := kk.heap (by simp) gR
  have kA := k0.trans0 kk
  have hsz : W.heap.size ≤ w3.heap.size := by have := k1.size; have := k2.size; have := k3.size; simp at *; omega
  obtain ⟨u0, u1, u2, u3, u4, u5⟩ := box2 fR (.int .i64 M) (.slice ad ln cp)
  clear kS hS hS1 hS2 hS3
  refine wpAnyH_ready (rs := [6]) (by kernel_rfl) (by simp) ?_
  refine AllReadyH.cons rfl (fun K hK => ?_) AllReadyH.nil
  go_simp
  refine hK.out _ _ ?_ (fun hS5 => ?_)
  · exact ⟨(World.cell?_setCell_other _ _ _ _ (by simp <;> omega)).trans ((World.cell?_setCell_other _ _ _ _ (by simp <;> omega)).trans hS4.1), (World.cell?_setCell_other _ _ _ _ (by simp <;> omega)).trans ((World.cell?_setCell_other _ _ _ _ (by simp <;> omega)).trans hS4.2.1), (World.cell?_setCell_other _ _ _ _ (by simp <;> omega)).trans ((World.cell?_setCell_other _ _ _ _ (by simp <;> omega)).trans hS4.2.2.1), (World.cell?_setCell_other _ _ _ _ (by simp <;> omega)).trans ((World.cell?_setCell_other _ _ _ _ (by simp <;> omega)).trans hS4.2.2.2)⟩
  clear hK K
  (try simp only [Act.put, List.setIfInBounds_toArray, List.set_cons_zero, List.set_cons_succ])
  refine wpAnyH_done (by kernel_rfl) ?_ _
  go_wp2
  refine bodyPost_ret (v := .agg #[.int .i64 M, .slice ad ln cp]) (by simp [results, Try.results20, go_sem, u4, u5]) rfl ⟨M, _, rfl, HM.out.symm, hMb, ?_, (kA.setCell (by right; simp; omega) _).setCell (by right; simp; omega) _⟩
  have h3 := IntsT.of_owns (ownsRow_setCell_below (a := ⟨w.heap.size + 1 + 1, 1, none⟩) (ownsRow_setCell_below (a := ⟨w.heap.size + 1 + 1, 0, none⟩) hown (by show w.heap.size + 1 + 1 < w3.heap.size + 2; omega) (.int .i64 M)) (by show w.heap.size + 1 + 1 < w3.heap.size + 2; omega) (.slice ad ln cp))
  rw [show (fun j => (decide (j < lenOf L1 on1) && memOf on1 j) && (decide (j < lenOf L2 on2) && memOf on2 j)) = (fun j => memOf on1 j && memOf on2 j) from funext fun j => by rw [memOf_len, memOf_len]] at h3
  exact h3


end Go.Proofs.Ytiaghdnhapiioaa

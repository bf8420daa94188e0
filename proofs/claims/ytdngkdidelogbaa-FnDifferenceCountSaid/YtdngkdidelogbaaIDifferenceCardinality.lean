/-
  impl.DifferenceCardinality.
-/
import Derived.Test.YtdngkdidelogbaaCardD
import Derived.Test.YtdngkdidelogbaaMemo
import Derived.Test.YtdngkdidelogbaaRow
namespace Go.Proofs.Ytdngkdidelogbaa
set_option linter.unusedSimpArgs false
set_option linter.unusedVariables false
open Go.RowKit

set_option maxHeartbeats 2000000 in
theorem implDifferenceCardinality_c (L1 L2 : Nat) (v1 v2 : Value) (on1 on2 : List Nat) (w : World) (hv1 : IntsAt w v1 on1) (hv2 : IntsAt w v2 on2) (hL1 : L1 ≤ 9000) (hL2 : L2 ≤ 9000) (hlen1 : on1.length ≤ 1000000) (hlen2 : on2.length ≤ 1000000) (hon1 : ∀ x ∈ on1, x < 9000) (hon2 : ∀ x ∈ on2, x < 9000) :
    Calls Try.prog 29 #[.agg #[.int .i64 L1, v1], .agg #[.int .i64 L2, v2]] w fun e w' => e = .returned (.int .i64 ((onL (max (lenOf L1 on1) (lenOf L2 on2)) (fun j => memOf on1 j && ! memOf on2 j)).length : Nat)) ∧ Kept [] w w' := by
  obtain ⟨ad1, cp1, rfl⟩ := hv1.shape
  obtain ⟨ad2, cp2, rfl⟩ := hv2.shape
  have hn1 := lenOf_le L1 on1 9000 hL1 hon1
  have hn2 := lenOf_le L2 on2 9000 hL2 hon2
  obtain ⟨W, hW⟩ : ∃ W, ((w.alloc (.cells #[.int .i64 L1, .slice ad1 on1.length cp1] 24)).alloc (.cells #[.int .i64 L2, .slice ad2 on2.length cp2] 24)) = W := ⟨_, rfl⟩
  have k0 : Kept [] w W := by rw [← hW]; exact ((Kept.refl _ _).alloc _).alloc _
  have gA : W.heap[w.heap.size]? = some (.cells #[.int .i64 L1, .slice ad1 on1.length cp1] 24 (0, 0)) := by
    rw [← hW]
    exact alloc_heap_old (heap_alloc_new w _) _
  have gB : W.heap[w.heap.size + 1]? = some (.cells #[.int .i64 L2, .slice ad2 on2.length cp2] 24 (0, 0)) := by
    rw [← hW]
    have := heap_alloc_new (w.alloc (.cells #[.int .i64 L1, .slice ad1 on1.length cp1] 24)) (.cells #[.int .i64 L2, .slice ad2 on2.length cp2] 24)
    simpa using this
  have HW := Lib.hid hW; clear hW
  obtain ⟨C, hC⟩ : ∃ C, (onL (max (lenOf L1 on1) (lenOf L2 on2)) (fun j => memOf on1 j && ! memOf on2 j)).length = C := ⟨_, rfl⟩
  have hCb : C ≤ 9000 := by rw [← hC]; exact Nat.le_trans (onL_le _ _) (by omega)
  have hC2 : (onL (max (lenOf L1 on1) (lenOf L2 on2)) (fun j => (decide (j < lenOf L1 on1) && memOf on1 j) && ! (decide (j < lenOf L2 on2) && memOf on2 j))).length = C := by
    rw [← hC, show (fun j => (decide (j < lenOf L1 on1) && memOf on1 j) && ! (decide (j < lenOf L2 on2) && memOf on2 j)) = (fun j => memOf on1 j && ! memOf on2 j) from funext fun j => by rw [memOf_len, memOf_len]]
  rw [hC]
  have HC := Lib.hid hC2; clear hC hC2
  have hcv : IntKind.i64.wrap (C : Int) = (C : Int) := by rw [IntKind.wrap_i64]; omega
  have HCV := Lib.hid hcv; clear hcv
  go_enter Try.func29, Try.ntmps29
  go_wp2
  rw [HW.out]
  have hv1' := hv1.kept k0
  have hv2' := hv2.kept k0
  obtain ⟨a0, a1, _, _, _, _⟩ := box2 gA (.bool true) (.bool true)
  obtain ⟨c0, c1, _, _, _, _⟩ := box2 gB (.bool true) (.bool true)
  refine wp_region_held_drew (S := fun w' => w'.cell? ⟨w.heap.size, 0, none⟩ = some (.int .i64 L1) ∧ w'.cell? ⟨w.heap.size, 1, none⟩ = some (.slice ad1 on1.length cp1) ∧ w'.cell? ⟨w.heap.size + 1, 0, none⟩ = some (.int .i64 L2) ∧ w'.cell? ⟨w.heap.size + 1, 1, none⟩ = some (.slice ad2 on2.length cp2)) (by kernel_rfl) ⟨a0, a1, c0, c1⟩ (fun hS => ?_)
  clear a0 a1 c0 c1
  refine takeD 0 5 (v := ?_) rfl rfl (by kernel_rfl) (by kernel_rfl) (by kernel_rfl) (fun _ _ _ h => h) (Or.inl ⟨by kernel_rfl, ?_⟩) hS ?_
  rotate_left 1
  · (intro w' hw'; (try dsimp only at hw'); go_simp; try with_reducible rfl)
  simp only [List.setIfInBounds_toArray, List.set_cons_zero, List.set_cons_succ]
  refine takeD 2 7 (v := ?_) rfl rfl (by kernel_rfl) (by kernel_rfl) (by kernel_rfl) (fun _ _ _ h => h) (Or.inl ⟨by kernel_rfl, ?_⟩) hS ?_
  rotate_left 1
  · (intro w' hw'; (try dsimp only at hw'); go_simp; try with_reducible rfl)
  simp only [List.setIfInBounds_toArray, List.set_cons_zero, List.set_cons_succ]
  refine wpAnyH_ready (rs := [1]) (by kernel_rfl) (by simp) ?_
  refine AllReadyH.cons rfl (fun K hK => ?_) AllReadyH.nil
  go_simp
  refine (build_c L1 _ on1 W.drew (hv1'.kept (Kept.refl [] W).drew) (by omega) (fun x hx => by have := hon1 x hx; omega) (by omega)).mono ?_
  rintro e w1 ⟨b1, g1, rfl, hb1, n1, n2, k1⟩
  have kS : ∀ {u u' : World} {T : List Nat}, (u.cell? ⟨w.heap.size, 0, none⟩ = some (.int .i64 L1) ∧ u.cell? ⟨w.heap.size, 1, none⟩ = some (.slice ad1 on1.length cp1) ∧ u.cell? ⟨w.heap.size + 1, 0, none⟩ = some (.int .i64 L2) ∧ u.cell? ⟨w.heap.size + 1, 1, none⟩ = some (.slice ad2 on2.length cp2)) → Kept [] u u' →
      (u'.cell? ⟨w.heap.size, 0, none⟩ = some (.int .i64 L1) ∧ u'.cell? ⟨w.heap.size, 1, none⟩ = some (.slice ad1 on1.length cp1) ∧ u'.cell? ⟨w.heap.size + 1, 0, none⟩ = some (.int .i64 L2) ∧ u'.cell? ⟨w.heap.size + 1, 1, none⟩ = some (.slice ad2 on2.length cp2)) :=
    fun h k => ⟨k.cell (by simp) h.1, k.cell (by simp) h.2.1, k.cell (by simp) h.2.2.1, k.cell (by simp) h.2.2.2⟩
  refine hK.out _ _ ?_ (fun hS1 => ?_)
  · exact kS (T := []) hS k1
  clear hK K
  (try simp only [Act.put, List.setIfInBounds_toArray, List.set_cons_zero, List.set_cons_succ])
  refine wpAnyH_ready (rs := [3]) (by kernel_rfl) (by simp) ?_
  refine AllReadyH.cons rfl (fun K hK => ?_) AllReadyH.nil
  go_simp
  refine (build_c L2 _ on2 w1 ((hv2'.kept (Kept.refl [] W).drew).kept k1) (by omega) (fun x hx => by have := hon2 x hx; omega) (by omega)).mono ?_
  rintro e w2 ⟨b2, g2, rfl, hb2, n3, n4, k2⟩
  refine hK.out _ _ ?_ (fun hS2 => ?_)
  · exact kS (T := []) hS1 k2
  clear hK K
  (try simp only [Act.put, List.setIfInBounds_toArray, List.set_cons_zero, List.set_cons_succ])
  refine wpAnyH_ready (rs := [4]) (by kernel_rfl) (by simp) ?_
  refine AllReadyH.cons rfl (fun K hK => ?_) AllReadyH.nil
  go_simp
  refine (differenceCard_c _ _ _ _ _ _ _ _ w2 (hb1.kept k2 (by simp) (by simp)) hb2 (by omega) (by omega)).mono ?_
  rintro e w3 ⟨rfl, k3⟩
  rw [HC.out]
  refine hK.out _ _ ?_ (fun hS3 => ?_)
  · exact kS (T := []) hS2 k3
  clear hK K
  (try simp only [Act.put, List.setIfInBounds_toArray, List.set_cons_zero, List.set_cons_succ])
  refine takeD 5 10 (v := ?_) rfl rfl (by kernel_rfl) (by kernel_rfl) (by kernel_rfl) (fun _ _ _ h => h) (Or.inl ⟨by kernel_rfl, ?_⟩) hS3 ?_
  rotate_left 1
  · (intro w' hw'; (try dsimp only at hw'); go_simp; try with_reducible rfl)
  simp only [List.setIfInBounds_toArray, List.set_cons_zero, List.set_cons_succ]
  refine takeD 6 4 (v := ?_) rfl rfl (by kernel_rfl) (by kernel_rfl) (by kernel_rfl) (fun _ _ _ h => h) (Or.inl ⟨by kernel_rfl, ?_⟩) hS3 ?_
  rotate_left 1
  · (intro w' hw'; (try dsimp only at hw'); go_simp; try with_reducible rfl)
  simp only [List.setIfInBounds_toArray, List.set_cons_zero, List.set_cons_succ]
  refine wpAnyH_done (by kernel_rfl) ?_ _
  go_wp2
  go_ret
  exact ⟨by simp [HCV.out], (((k0.trans0 (Kept.refl [] W).drew).trans0 k1).trans0 k2).trans0 k3⟩

end Go.Proofs.Ytdngkdidelogbaa

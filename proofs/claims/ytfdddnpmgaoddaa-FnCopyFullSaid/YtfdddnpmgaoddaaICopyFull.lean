/-
  impl.CopyFull.
-/
import Derived.Test.YtfdddnpmgaoddaaCopyB
import Derived.Test.YtfdddnpmgaoddaaRow
namespace Go.Proofs.Ytfdddnpmgaoddaa
set_option linter.unusedSimpArgs false
set_option linter.unusedVariables false
open Go.RowKit

set_option maxHeartbeats 2000000 in
theorem implCopyFull_c (L1 L2 : Nat) (v1 v2 : Value) (on1 on2 : List Nat) (w : World) (hv1 : IntsAt w v1 on1) (hv2 : IntsAt w v2 on2) (hL1 : L1 ≤ 9000) (hL2 : L2 ≤ 9000) (hlen1 : on1.length ≤ 1000000) (hlen2 : on2.length ≤ 1000000) (hon1 : ∀ x ∈ on1, x < 9000) (hon2 : ∀ x ∈ on2, x < 9000) :
    Calls Try.prog 27 #[.agg #[.int .i64 L1, v1], .agg #[.int .i64 L2, v2]] w fun e w' => ∃ (M : Nat) (v' : Value), e = .returned (.agg #[.int .i64 M, v']) ∧ M = lenOf L1 on1 ∧ M ≤ 9000 ∧ IntsAt w' v' (onL M (memOf on1)) ∧ Kept [] w w' := by
  obtain ⟨ad1, cp1, rfl⟩ := hv1.shape
  obtain ⟨ad2, cp2, rfl⟩ := hv2.shape
  have hn1 := lenOf_le L1 on1 9000 hL1 hon1
  have hn2 := lenOf_le L2 on2 9000 hL2 hon2
  obtain ⟨W, hW⟩ : ∃ W, (((w.alloc (.cells #[.int .i64 L1, .slice ad1 on1.length cp1] 24)).alloc (.cells #[.int .i64 L2, .slice ad2 on2.length cp2] 24)).alloc (.cells #[.int .i64 0, .slice none 0 0] 24)) = W := ⟨_, rfl⟩
  have k0 : Kept [] w W := by rw [← hW]; exact (((Kept.refl _ _).alloc _).alloc _).alloc _
  have gA : W.heap[w.heap.size]? = some (.cells #[.int .i64 L1, .slice ad1 on1.length cp1] 24 (0, 0)) := by
    rw [← hW]
    exact alloc_heap_old (alloc_heap_old (heap_alloc_new w _) _) _
  have gB : W.heap[w.heap.size + 1]? = some (.cells #[.int .i64 L2, .slice ad2 on2.length cp2] 24 (0, 0)) := by
    rw [← hW]
    have := alloc_heap_old (heap_alloc_new (w.alloc (.cells #[.int .i64 L1, .slice ad1 on1.length cp1] 24)) (.cells #[.int .i64 L2, .slice ad2 on2.length cp2] 24)) (.cells #[.int .i64 0, .slice none 0 0] 24)
    simpa using this
  have gR : W.heap[w.heap.size + 1 + 1]? = some (.cells #[.int .i64 0, .slice none 0 0] 24 (0, 0)) := by
    rw [← hW]
    have := heap_alloc_new ((w.alloc (.cells #[.int .i64 L1, .slice ad1 on1.length cp1] 24)).alloc (.cells #[.int .i64 L2, .slice ad2 on2.length cp2] 24)) (.cells #[.int .i64 0, .slice none 0 0] 24)
    simpa using this
  have HW := Lib.hid hW; clear hW
  have hWs := lt_of_heap gR
  go_enter Try.func27, Try.ntmps27
  go_wp2_with fail
  rw [HW.out]
  refine (build_c L2 _ on2 W (hv2.kept k0) (by omega) (fun x hx => by have := hon2 x hx; omega) (by omega)).mono ?_
  rintro e w1 ⟨b2, g2, rfl, hb2, n1, n2, k1⟩
  obtain ⟨c0, c1, _, _, _, _⟩ := box2 (k1.heap (by simp) gA) (.bool true) (.bool true)
  go_wp2_with fail
  refine (build_c L1 _ on1 w1 ((hv1.kept k0).kept k1) (by omega) (fun x hx => by have := hon1 x hx; omega) (by omega)).mono ?_
  rintro e w2 ⟨b1, g1, rfl, hb1, n3, n4, k2⟩
  have hl2 := hb2.lt
  clear c0 c1
  go_wp2_with fail
  refine (copyFull_c _ _ _ _ _ _ _ _ w2 hb1 (hb2.kept k2 (by simp) (by simp)) (by omega) ⟨by omega, by omega, by omega, by omega⟩).mono ?_
  rintro e w3 ⟨rfl, g3, hb3, hg3, k3⟩
  obtain ⟨M, hM⟩ : ∃ M, lenOf L1 on1 = M := ⟨_, rfl⟩
  have hMb : M ≤ 9000 := by omega
  rw [hM] at hb3
  have HM := Lib.hid hM; clear hM
  go_wp2_with fail
  refine (told_c b2 g3 _ _ w3 hb3 (by omega)).mono ?_
  rintro e w4 ⟨v4, rfl, hown, k4⟩
  obtain ⟨ad, ln, cp, rfl⟩ := slice_of_owns hown
  have kk : Kept [] W w4 := ((k1.trans0 k2).trans k3 (fun x hx => by simp at hx; right; omega)).trans0 k4
  have fR := kk.heap (by simp) gR
  have kA := k0.trans0 kk
  have hsz : W.heap.size ≤ w3.heap.size := by have := k1.size; have := k2.size; have := k3.size; omega
  obtain ⟨u0, u1, u2, u3, u4, u5⟩ := box2 fR (.int .i64 M) (.slice ad ln cp)
  clear hb3 hb2 hb1 fR gA gB gR
  go_wp2_with fail
  refine bodyPost_ret (v := .agg #[.int .i64 M, .slice ad ln cp]) (by simp [results, Try.results27, go_sem, u4, u5]) rfl ⟨M, _, rfl, HM.out.symm, hMb, ?_, (kA.setCell (by right; simp; omega) _).setCell (by right; simp; omega) _⟩
  exact IntsAt.of_owns (ownsRow_setCell_below (a := ⟨w.heap.size + 1 + 1, 1, none⟩) (ownsRow_setCell_below (a := ⟨w.heap.size + 1 + 1, 0, none⟩) hown (by show w.heap.size + 1 + 1 < w3.heap.size + 2; omega) (.int .i64 M)) (by show w.heap.size + 1 + 1 < w3.heap.size + 2; omega) (.slice ad ln cp))


end Go.Proofs.Ytfdddnpmgaoddaa

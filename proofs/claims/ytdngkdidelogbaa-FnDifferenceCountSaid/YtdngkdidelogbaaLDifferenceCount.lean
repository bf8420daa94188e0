/-
  laws.FnDifferenceCount: for every input.
-/
import Derived.Test.YtdngkdidelogbaaIDifferenceCardinality
import Derived.Test.YtdngkdidelogbaaKDifferenceCount
import Derived.Test.YtdngkdidelogbaaBothBad
namespace Go.Proofs.Ytdngkdidelogbaa
set_option linter.unusedSimpArgs false
set_option linter.unusedVariables false
open Go.RowKit

set_option maxHeartbeats 1000000 in
set_option maxRecDepth 100000 in
theorem fnDifferenceCount_bad (L1 L2 : Int) (v1 v2 : Value) (zs1 zs2 : List Int) (w : World) (hv1 : IntsZ w v1 zs1) (hv2 : IntsZ w v2 zs2) (hlen1 : zs1.length ≤ 9223372036854775807) (hlen2 : zs2.length ≤ 9223372036854775807)
    (hL1 : -9223372036854775808 ≤ L1) (hR1 : L1 ≤ 9223372036854775807) (hL2 : -9223372036854775808 ≤ L2) (hR2 : L2 ≤ 9223372036854775807) (hb : ¬ (Good L1 zs1 ∧ Good L2 zs2)) :
    Calls Try.prog 6 #[.agg #[.int .i64 L1, v1], .agg #[.int .i64 L2, v2]] w fun e w' => e = .returned (.bool true) ∧ Kept [] w w' := by
  obtain ⟨ad1, e1, cp1, rfl⟩ : ∃ ad m cap, v1 = .slice ad m cap := by
    rcases hv1 with ⟨ad, cap, h3, h4⟩ | ⟨b, off, cap, h3, _, _⟩ <;> exact ⟨_, _, _, h3⟩
  obtain ⟨ad2, e2, cp2, rfl⟩ : ∃ ad m cap, v2 = .slice ad m cap := by
    rcases hv2 with ⟨ad, cap, h3, h4⟩ | ⟨b, off, cap, h3, _, _⟩ <;> exact ⟨_, _, _, h3⟩
  obtain ⟨W, hW⟩ : ∃ W, ((w.alloc (.cells #[.int .i64 L1, .slice ad1 e1 cp1] 24)).alloc (.cells #[.int .i64 L2, .slice ad2 e2 cp2] 24)) = W := ⟨_, rfl⟩
  have k0 : Kept [] w W := by rw [← hW]; exact ((Kept.refl _ _).alloc _).alloc _
  have gA : W.heap[w.heap.size]? = some (.cells #[.int .i64 L1, .slice ad1 e1 cp1] 24 (0, 0)) := by
    rw [← hW]
    exact alloc_heap_old (heap_alloc_new w _) _
  have gB : W.heap[w.heap.size + 1]? = some (.cells #[.int .i64 L2, .slice ad2 e2 cp2] 24 (0, 0)) := by
    rw [← hW]
    have := heap_alloc_new (w.alloc (.cells #[.int .i64 L1, .slice ad1 e1 cp1] 24)) (.cells #[.int .i64 L2, .slice ad2 e2 cp2] 24)
    simpa using this
  have HW := Lib.hid hW; clear hW
  by_cases hm1 : e1 ≤ 2147483647
  · have hd1 : decide (e1 ≤ 2147483647) = true := by simpa using hm1
    by_cases hm2 : e2 ≤ 2147483647
    · have hd2 : decide (e2 ≤ 2147483647) = true := by simpa using hm2
      by_cases hg1 : Good L1 zs1
      · have hg2 : ¬ Good L2 zs2 := fun h => hb ⟨hg1, h⟩
        clear hb
        go_enter Try.func6, Try.ntmps6
        go_wp2_with fail
        rw [HW.out]
        refine (zz_c L1 ad1 e1 cp1 _).mono ?_
        rintro e w1 ⟨rfl, k1⟩
        rw [hd1]
        obtain ⟨c0, c1, _, _, _, _⟩ := box2 (k1.heap (by simp) gB) (.bool true) (.bool true)
        go_wp2_with fail
        refine (zz_c L2 ad2 e2 cp2 _).mono ?_
        rintro e w2 ⟨rfl, k2⟩
        rw [hd2]
        have k12 := k1.trans0 k2
        obtain ⟨a0, a1, _, _, _, _⟩ := box2 (k12.heap (by simp) gA) (.bool true) (.bool true)
        obtain ⟨b0, b1, _, _, _, _⟩ := box2 (k12.heap (by simp) gB) (.bool true) (.bool true)
        go_wp2_with fail
        refine (both_bad2 L1 L2 _ _ zs1 zs2 _ (hv1.kept (k0.trans0 k12)) (hv2.kept (k0.trans0 k12)) hlen1 hlen2 hL1 hR1 hL2 hR2 hg1 hg2).mono ?_
        rintro e w3 ⟨d1, m1, c1, t1, d2, m2, c2, t2, rfl, k3⟩
        go_wp2_with fail
        go_ret
        exact ⟨rfl, ((((k0.trans0 k12).trans0 k3).alloc _).alloc _)⟩
      · clear hb
        go_enter Try.func6, Try.ntmps6
        go_wp2_with fail
        rw [HW.out]
        refine (zz_c L1 ad1 e1 cp1 _).mono ?_
        rintro e w1 ⟨rfl, k1⟩
        rw [hd1]
        obtain ⟨c0, c1, _, _, _, _⟩ := box2 (k1.heap (by simp) gB) (.bool true) (.bool true)
        go_wp2_with fail
        refine (zz_c L2 ad2 e2 cp2 _).mono ?_
        rintro e w2 ⟨rfl, k2⟩
        rw [hd2]
        have k12 := k1.trans0 k2
        obtain ⟨a0, a1, _, _, _, _⟩ := box2 (k12.heap (by simp) gA) (.bool true) (.bool true)
        obtain ⟨b0, b1, _, _, _, _⟩ := box2 (k12.heap (by simp) gB) (.bool true) (.bool true)
        go_wp2_with fail
        refine (both_bad1 L1 L2 _ _ zs1 zs2 _ (hv1.kept (k0.trans0 k12)) (hv2.kept (k0.trans0 k12)) hlen1 hlen2 hL1 hR1 hL2 hR2 hg1).mono ?_
        rintro e w3 ⟨d1, m1, c1, t1, d2, m2, c2, t2, rfl, k3⟩
        go_wp2_with fail
        go_ret
        exact ⟨rfl, ((((k0.trans0 k12).trans0 k3).alloc _).alloc _)⟩
    · have hd2 : decide (e2 ≤ 2147483647) = false := by simpa using hm2
      clear hb
      go_enter Try.func6, Try.ntmps6
      go_wp2_with fail
      rw [HW.out]
      refine (zz_c L1 ad1 e1 cp1 _).mono ?_
      rintro e w1 ⟨rfl, k1⟩
      rw [hd1]
      obtain ⟨c0, c1, _, _, _, _⟩ := box2 (k1.heap (by simp) gB) (.bool true) (.bool true)
      go_wp2_with fail
      refine (zz_c L2 ad2 e2 cp2 _).mono ?_
      rintro e w2 ⟨rfl, k2⟩
      rw [hd2]
      have k12 := k1.trans0 k2
      obtain ⟨a0, a1, _, _, _, _⟩ := box2 (k12.heap (by simp) gA) (.bool true) (.bool true)
      obtain ⟨b0, b1, _, _, _, _⟩ := box2 (k12.heap (by simp) gB) (.bool true) (.bool true)
      go_wp2_with fail
      go_ret
      exact ⟨rfl, k0.trans0 k12⟩
  · have hd1 : decide (e1 ≤ 2147483647) = false := by simpa using hm1
    clear hb
    go_enter Try.func6, Try.ntmps6
    go_wp2_with fail
    rw [HW.out]
    refine (zz_c L1 ad1 e1 cp1 _).mono ?_
    rintro e w1 ⟨rfl, k1⟩
    rw [hd1]
    obtain ⟨c0, c1, _, _, _, _⟩ := box2 (k1.heap (by simp) gB) (.bool true) (.bool true)
    go_wp2_with fail
    go_ret
    exact ⟨rfl, k0.trans0 k1⟩

set_option maxHeartbeats 2000000 in
theorem fnDifferenceCount_good (L1 L2 : Nat) (v1 v2 : Value) (on1 on2 : List Nat) (w : World) (hv1 : IntsAt w v1 on1) (hv2 : IntsAt w v2 on2) (hL1 : L1 ≤ 2000) (hL2 : L2 ≤ 2000) (hlen1 : on1.length ≤ 400) (hlen2 : on2.length ≤ 400) (hon1 : ∀ x ∈ on1, x < 2500) (hon2 : ∀ x ∈ on2, x < 2500) :
    Calls Try.prog 6 #[.agg #[.int .i64 L1, v1], .agg #[.int .i64 L2, v2]] w fun e w' => e = .returned (.bool true) ∧ Kept [] w w' := by
  have hn1 := lenOf_le L1 on1 2500 (by omega) hon1
  have hn2 := lenOf_le L2 on2 2500 (by omega) hon2
  obtain ⟨ad1, cp1, rfl⟩ := hv1.shape
  obtain ⟨ad2, cp2, rfl⟩ := hv2.shape
  have hd1 : decide (on1.length ≤ 2147483647) = true := by simp; omega
  have hd2 : decide (on2.length ≤ 2147483647) = true := by simp; omega
  obtain ⟨W, hW⟩ : ∃ W, ((w.alloc (.cells #[.int .i64 L1, .slice ad1 on1.length cp1] 24)).alloc (.cells #[.int .i64 L2, .slice ad2 on2.length cp2] 24)) = W := ⟨_, rfl⟩
  have k0 : Kept [] w W := by rw [← hW]; exact ((Kept.refl _ _).alloc _).alloc _
  have gA : W.heap[w.heap.size]? = some (.cells #[.int .i64 L1, .slice ad1 on1.length cp1] 24 (0, 0)) := by
    rw [← hW]
    exact alloc_heap_old (heap_alloc_new w _) _
  have gB : W.heap[w.heap.size + 1]? = some (.cells #[.int .i64 L2, .slice ad2 on2.length cp2] 24 (0, 0)) := by
    rw [← hW]
    have := heap_alloc_new (w.alloc (.cells #[.int .i64 L1, .slice ad1 on1.length cp1] 24)) (.cells #[.int .i64 L2, .slice ad2 on2.length cp2] 24)
    simpa using this
  have HW := Lib.hid hW; clear hW
  go_enter Try.func6, Try.ntmps6
  go_wp2_with fail
  rw [HW.out]
  refine (zz_c L1 ad1 on1.length cp1 _).mono ?_
  rintro e w1 ⟨rfl, k1⟩
  rw [hd1]
  obtain ⟨c0, c1, _, _, _, _⟩ := box2 (k1.heap (by simp) gB) (.bool true) (.bool true)
  go_wp2_with fail
  refine (zz_c L2 ad2 on2.length cp2 _).mono ?_
  rintro e w2 ⟨rfl, k2⟩
  rw [hd2]
  have k12 := k1.trans0 k2
  obtain ⟨a0, a1, _, _, _, _⟩ := box2 (k12.heap (by simp) gA) (.bool true) (.bool true)
  obtain ⟨b0, b1, _, _, _, _⟩ := box2 (k12.heap (by simp) gB) (.bool true) (.bool true)
  go_wp2_with fail
  refine (both_good L1 L2 _ _ on1 on2 _ (hv1.kept (k0.trans0 k12)) (hv2.kept (k0.trans0 k12)) hL1 hL2 hlen1 hlen2 hon1 hon2).mono ?_
  rintro e w3 ⟨s1, s2, rfl, hs1, hs2, k3⟩
  obtain ⟨x1, y1, rfl⟩ := hs1.shape
  obtain ⟨x2, y2, rfl⟩ := hs2.shape
  have k03 := (k0.trans0 k12).trans0 k3
  have fA := k3.heap (by simp) (k12.heap (by simp) gA)
  have fB := k3.heap (by simp) (k12.heap (by simp) gB)
  clear a0 a1 b0 b1 c0 c1 gA gB k1 k2 k12 k3
  obtain ⟨V, hV⟩ : ∃ V, ((w3.alloc (.cells #[.slice (some ⟨x1, 0, none⟩) (lenOf L1 on1) y1, .bool true] 28)).alloc (.cells #[.slice (some ⟨x2, 0, none⟩) (lenOf L2 on2) y2, .bool true] 28)) = V := ⟨_, rfl⟩
  have z3 : Kept [] w3 V := by rw [← hV]; exact ((Kept.refl _ _).alloc _).alloc _
  have gX : V.heap[w3.heap.size]? = some (.cells #[.slice (some ⟨x1, 0, none⟩) (lenOf L1 on1) y1, .bool true] 28 (0, 0)) := by
    rw [← hV]
    exact alloc_heap_old (heap_alloc_new w3 _) _
  have gY : V.heap[w3.heap.size + 1]? = some (.cells #[.slice (some ⟨x2, 0, none⟩) (lenOf L2 on2) y2, .bool true] 28 (0, 0)) := by
    rw [← hV]
    have := heap_alloc_new (w3.alloc (.cells #[.slice (some ⟨x1, 0, none⟩) (lenOf L1 on1) y1, .bool true] 28)) (.cells #[.slice (some ⟨x2, 0, none⟩) (lenOf L2 on2) y2, .bool true] 28)
    simpa using this
  have HV := Lib.hid hV; clear hV
  have fA := z3.heap (by simp) fA
  have fB := z3.heap (by simp) fB
  have hs1 := hs1.kept z3
  have hs2 := hs2.kept z3
  have hw1 := (hv1.kept k03).kept z3
  have hw2 := (hv2.kept k03).kept z3
  have kV := k03.trans0 z3
  clear z3
  obtain ⟨n1, hN1⟩ : ∃ n, lenOf L1 on1 = n := ⟨_, rfl⟩
  obtain ⟨n2, hN2⟩ : ∃ n, lenOf L2 on2 = n := ⟨_, rfl⟩
  rw [hN1] at hs1 gX HV hn1 ⊢
  rw [hN2] at hs2 gY HV hn2 ⊢
  have HN1 := Lib.hid hN1; have HN2 := Lib.hid hN2; clear hN1 hN2
  go_wp2_with fail
  rw [HV.out]
  refine (longer_c _ _ n1 n2 _ _ _ _ _).mono ?_
  rintro e w4 ⟨rfl, k4⟩
  go_wp2_with fail
  refine (from_c (max n1 n2) _ rfl 28 #[] #[.pointer (some ⟨w3.heap.size, 0, none⟩), .pointer (some ⟨w3.heap.size + 1, 0, none⟩)] (fun i => (decide (i < n1) && memOf on1 i) && ! (decide (i < n2) && memOf on2 i)) _ (by omega) (fun args w => by kernel_rfl) (fun i w' _ q => fnDifferenceCount_cl _ _ x1 n1 y1 x2 n2 y2 i (memOf on1) (memOf on2) w' ((k4.trans0 q).heap (by simp) gX) ((k4.trans0 q).heap (by simp) gY) (hs1.kept (k4.trans0 q)) (hs2.kept (k4.trans0 q)))).mono ?_
  rintro e w5 ⟨b5, rfl, r5, _, k5⟩
  have z5 : Kept [] w5 (w5.alloc (.cells #[.slice (some ⟨b5, 0, none⟩) (max n1 n2) (max n1 n2), .bool true] 28)) := (Kept.refl _ _).alloc _
  have gS := heap_alloc_new w5 (.cells #[.slice (some ⟨b5, 0, none⟩) (max n1 n2) (max n1 n2), .bool true] 28)
  have k45 := (k4.trans0 k5).trans0 z5
  have fA := k45.heap (by simp) fA
  have fB := k45.heap (by simp) fB
  have hw1 := hw1.kept k45
  have hw2 := hw2.kept k45
  have hs5 : SpecSet (w5.alloc (.cells #[.slice (some ⟨b5, 0, none⟩) (max n1 n2) (max n1 n2), .bool true] 28)) (.agg #[.slice (some ⟨b5, 0, none⟩) (max n1 n2) (max n1 n2), .bool true]) (max n1 n2) (fun i => (decide (i < n1) && memOf on1 i) && ! (decide (i < n2) && memOf on2 i)) true := ⟨b5, _, rfl, r5.alloc _⟩
  have kU := kV.trans0 k45
  clear k45 z5 k4 k5 gX gY hs1 hs2 r5
  go_wp2_with fail
  obtain ⟨N, hN⟩ : ∃ N, max n1 n2 = N := ⟨_, rfl⟩
  rw [hN] at hs5 gS fA fB hw1 hw2 kU ⊢
  have HN := Lib.hid hN; clear hN
  generalize (w5.alloc (.cells #[.slice (some ⟨b5, 0, none⟩) N N, .bool true] 28)) = U at *
  have A0 : ∀ w', Kept [] U w' → w'.cell? ⟨w.heap.size, 0, none⟩ = some (.int .i64 L1) := fun w' k => (cell_of_heap (k.heap (by simp) fA)).trans rfl
  have A1 : ∀ w', Kept [] U w' → w'.cell? ⟨w.heap.size, 1, none⟩ = some (.slice ad1 on1.length cp1) := fun w' k => (cell_of_heap (k.heap (by simp) fA)).trans rfl
  have B0 : ∀ w', Kept [] U w' → w'.cell? ⟨w.heap.size + 1, 0, none⟩ = some (.int .i64 L2) := fun w' k => (cell_of_heap (k.heap (by simp) fB)).trans rfl
  have B1 : ∀ w', Kept [] U w' → w'.cell? ⟨w.heap.size + 1, 1, none⟩ = some (.slice ad2 on2.length cp2) := fun w' k => (cell_of_heap (k.heap (by simp) fB)).trans rfl
  have C0 : ∀ w', Kept [] U w' → w'.cell? ⟨w5.heap.size, 0, none⟩ = some (.slice (some ⟨b5, 0, none⟩) N N) := fun w' k => (cell_of_heap (k.heap (by simp) gS)).trans rfl
  have C1 : ∀ w', Kept [] U w' → w'.cell? ⟨w5.heap.size, 1, none⟩ = some (.bool true) := fun w' k => (cell_of_heap (k.heap (by simp) gS)).trans rfl
  clear fA fB gS
  obtain ⟨Q, hQ⟩ : ∃ Q, (onL N (fun i => (decide (i < n1) && memOf on1 i) && ! (decide (i < n2) && memOf on2 i))).length = Q := ⟨_, rfl⟩
  have hQ2 : (onL (max (lenOf L1 on1) (lenOf L2 on2)) (fun j => memOf on1 j && ! memOf on2 j)).length = Q := by
    rw [← hQ, ← HN.out, ← HN1.out, ← HN2.out]
    congr 1
    refine onL_both _ _ _ _ fun j => ?_
    rw [memOf_len, memOf_len]
  have HQ := Lib.hid hQ; have HQ2 := Lib.hid hQ2; clear hQ hQ2
  refine wp_region_held_drew (S := fun w' => Kept [] U w') (by kernel_rfl) (Kept.refl _ _).drew (fun hS => ?_)
  refine takeD 0 31 (v := ?_) rfl rfl (by kernel_rfl) (by kernel_rfl) (by kernel_rfl) (fun _ _ _ h => h) (Or.inl ⟨by kernel_rfl, ?_⟩) hS ?_
  rotate_left 1
  · (intro w' hw'; (try dsimp only at hw'); go_simp; try with_reducible rfl)
  simp only [List.setIfInBounds_toArray, List.set_cons_zero, List.set_cons_succ]
  refine takeD 1 32 (v := ?_) rfl rfl (by kernel_rfl) (by kernel_rfl) (by kernel_rfl) (fun _ _ _ h => h) (Or.inl ⟨by kernel_rfl, ?_⟩) hS ?_
  rotate_left 1
  · (intro w' hw'; (try dsimp only at hw'); go_simp; try with_reducible rfl)
  simp only [List.setIfInBounds_toArray, List.set_cons_zero, List.set_cons_succ]
  refine takeD 3 34 (v := ?_) rfl rfl (by kernel_rfl) (by kernel_rfl) (by kernel_rfl) (fun _ _ _ h => h) (Or.inl ⟨by kernel_rfl, ?_⟩) hS ?_
  rotate_left 1
  · (intro w' hw'; (try dsimp only at hw'); go_simp; try with_reducible rfl)
  simp only [List.setIfInBounds_toArray, List.set_cons_zero, List.set_cons_succ]
  refine wpAnyH_ready (rs := [2]) (by kernel_rfl) (by simp) ?_
  refine AllReadyH.cons rfl (fun K hK => ?_) AllReadyH.nil
  go_simp
  refine (implDifferenceCardinality_c L1 L2 _ _ on1 on2 _ (hw1.kept hS) (hw2.kept hS) (by omega) (by omega) (by omega) (by omega) (fun x hx => by have := hon1 x hx; omega) (fun x hx => by have := hon2 x hx; omega)).mono ?_
  rintro e w6 ⟨rfl, k6⟩
  rw [HQ2.out]
  refine hK.out _ _ ?_ (fun hS1 => ?_)
  · exact hS.trans0 k6
  clear hK K
  (try simp only [Act.put, List.setIfInBounds_toArray, List.set_cons_zero, List.set_cons_succ])
  refine wpAnyH_ready (rs := [4]) (by kernel_rfl) (by simp) ?_
  refine AllReadyH.cons rfl (fun K hK => ?_) AllReadyH.nil
  go_simp
  refine (on_c _ N _ true _ (hs5.kept hS1) (by have := HN.out; omega)).mono ?_
  rintro e w7 ⟨v7, rfl, hown, k7⟩
  obtain ⟨ad7, cp7, rfl⟩ := (IntsAt.of_owns hown).shape
  rw [HQ.out]
  clear hown
  refine hK.out _ _ ?_ (fun hS2 => ?_)
  · exact hS1.trans0 k7
  clear hK K
  (try simp only [Act.put, List.setIfInBounds_toArray, List.set_cons_zero, List.set_cons_succ])
  refine takeD 5 36 (v := ?_) rfl rfl (by kernel_rfl) (by kernel_rfl) (by kernel_rfl) (fun _ _ _ h => h) (Or.inl ⟨by kernel_rfl, ?_⟩) hS2 ?_
  rotate_left 1
  · (intro w' hw'; (try dsimp only at hw'); go_simp; try with_reducible rfl)
  simp only [List.setIfInBounds_toArray, List.set_cons_zero, List.set_cons_succ]
  refine takeD 6 37 (v := ?_) rfl rfl (by kernel_rfl) (by kernel_rfl) (by kernel_rfl) (fun _ _ _ h => h) (Or.inl ⟨by kernel_rfl, ?_⟩) hS2 ?_
  rotate_left 1
  · (intro w' hw'; (try dsimp only at hw'); go_simp; try with_reducible rfl)
  simp only [List.setIfInBounds_toArray, List.set_cons_zero, List.set_cons_succ]
  refine takeD 7 4 (v := ?_) rfl rfl (by kernel_rfl) (by kernel_rfl) (by kernel_rfl) (fun _ _ _ h => h) (Or.inl ⟨by kernel_rfl, ?_⟩) hS2 ?_
  rotate_left 1
  · (intro w' hw'; (try dsimp only at hw'); go_simp; try with_reducible rfl)
  simp only [List.setIfInBounds_toArray, List.set_cons_zero, List.set_cons_succ]
  refine wpAnyH_done (by kernel_rfl) ?_ _
  go_wp2
  go_ret
  exact ⟨by simp, kU.trans0 hS2⟩

theorem fnDifferenceCount_c (L1 L2 : Int) (v1 v2 : Value) (zs1 zs2 : List Int) (w : World) (hv1 : IntsZ w v1 zs1) (hv2 : IntsZ w v2 zs2) (hlen1 : zs1.length ≤ 9223372036854775807) (hlen2 : zs2.length ≤ 9223372036854775807)
    (hL1 : -9223372036854775808 ≤ L1) (hR1 : L1 ≤ 9223372036854775807) (hL2 : -9223372036854775808 ≤ L2) (hR2 : L2 ≤ 9223372036854775807) :
    Calls Try.prog 6 #[.agg #[.int .i64 L1, v1], .agg #[.int .i64 L2, v2]] w fun e w' => e = .returned (.bool true) ∧ Kept [] w w' := by
  by_cases hg : Good L1 zs1 ∧ Good L2 zs2
  · obtain ⟨n1, on1, rfl, q1, q2, q3, q4⟩ := hv1.good hg.1
    obtain ⟨n2, on2, rfl, p1, p2, p3, p4⟩ := hv2.good hg.2
    exact fnDifferenceCount_good n1 n2 v1 v2 on1 on2 w q4 p4 q1 p1 q2 p2 q3 p3
  · exact fnDifferenceCount_bad L1 L2 v1 v2 zs1 zs2 w hv1 hv2 hlen1 hlen2 hL1 hR1 hL2 hR2 hg

open Go.ChangeShapes Go.WideShapes Go.ChangeAt Go.Joins

set_option maxRecDepth 100000 in
theorem fnDifferenceCount_lifted (os : Os) (started : os.Started) (H : Type) (enc : TypeId × Value → H) :
    ReturnsInHanded {} Try.checked os 6 .any (Rows.fnDifferenceCountSpec.pre6 enc Try.prog Try.f6 Rows.fnDifferenceCountRow.domain false) (Rows.fnDifferenceCountSpec.post enc Try.prog Try.f6 false true false false) := by
  refine returnsInHanded_of_change (C := Try.checked) Try.own started (by kernel_rfl) Try.func6
    (ChangeSpec.witness6 (enc := enc) (C := Try.checked) false ⟨#[], #[.agg #[.int .i64 0, .slice none 0 0], .agg #[.int .i64 0, .slice none 0 0]], []⟩ 8 (by kernel_rfl) (by kernel_rfl) (by kernel_rfl) (by kernel_rfl)) ?_
  intro W base args ds gs before hval0 hW _ _
  have hval : ∀ (j : Nat) t v, Try.f6.params[j]? = some t → args[j]? = some v → Value.okWide Try.prog W .any base t v := hval0
  have hW' := hW
  obtain ⟨p, q, hA0, hV, rfl, _, _⟩ := hW
  have hA : DataW.TrodAll enc Try.prog W 0 (fun _ => true) true Try.f6.params.toList args.toList ds p := hA0
  rw [Try.params6] at hA hval
  obtain ⟨v0, v1, d0, d1, p0, p1, rfl, rfl, rfl, h0, h1⟩ := trodAll_two hA
  obtain ⟨rfl, rfl⟩ := trodVars_none hV
  obtain ⟨L1, s1, zs1, rfl, hz1, hlen1, hL1, hR1⟩ := bits_read (hval 1 24 v1 rfl rfl) h1
  obtain ⟨L0, s0, zs0, rfl, hz0, hlen0, hL0, hR0⟩ := bits_read (hval 0 24 v0 rfl rfl) h0
  clear hA0 hval0
  simp only [List.append_nil] at hW'
  have hlt0 : ∀ x ∈ p0, x.block < W.heap.size := fun x hx => by simpa using hW'.lt x (by simp [hx])
  have hlt1 : ∀ x ∈ p1, x.block < W.heap.size := fun x hx => by simpa using hW'.lt x (by simp [hx])
  refine (fnDifferenceCount_c L0 L1 s0 s1 zs0 zs1 W hz0 hz1 hlen0 hlen1 hL0 hR0 hL1 hR1).mono fun e W' ⟨he, hk⟩ => ?_
  subst he
  have hb := hk.below
  refine ⟨_, rfl, _, _, _, [], p0 ++ p1, [], hW', ?_, ?_, rfl, hb.frame _, fun h => by cases h⟩
  · exact trodAll_mk1 (shut_bool Try.underlying4 true)
  · exact trodAll_mk2 (Below.trod Try.laidOut (by kernel_rfl) (of_decide_eq_true (by kernel_rfl)) h0 hb hlt0) (Below.trod Try.laidOut (by kernel_rfl) (of_decide_eq_true (by kernel_rfl)) h1 hb hlt1)

theorem fnDifferenceCount_holds : Rows.FnDifferenceCountSaid :=
  OpenClaim.holds_of_wide 6 Try.f6 rfl rfl rfl rfl rfl rfl rfl ⟨rfl, rfl, rfl, rfl, rfl⟩ rfl rfl rfl rfl rfl (by kernel_rfl) Try.func6 (by kernel_rfl)
    (of_decide_eq_true (by kernel_rfl)) (by unfold Func.isWrapper; first | (rw [if_pos (by decide +kernel)]; kernel_rfl) | (rw [if_neg (by decide +kernel)]; exact ⟨rfl, rfl⟩))
    (fun os started H enc _ => fnDifferenceCount_lifted os started H enc)

end Go.Proofs.Ytdngkdidelogbaa

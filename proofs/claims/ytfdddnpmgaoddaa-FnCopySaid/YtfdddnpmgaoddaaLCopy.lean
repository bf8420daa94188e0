/-
  laws.FnCopy: for every input.
-/
import Derived.Test.YtfdddnpmgaoddaaICopy
import Derived.Test.YtfdddnpmgaoddaaKCopy
import Derived.Test.YtfdddnpmgaoddaaMemo
import Derived.Test.YtfdddnpmgaoddaaBothBad
namespace Go.Proofs.Ytfdddnpmgaoddaa
set_option linter.unusedSimpArgs false
set_option linter.unusedVariables false
open Go.RowKit

set_option maxHeartbeats 1000000 in
set_option maxRecDepth 100000 in
theorem fnCopy_bad (L1 L2 : Int) (v1 v2 : Value) (zs1 zs2 : List Int) (w : World) (hv1 : IntsZ w v1 zs1) (hv2 : IntsZ w v2 zs2) (hlen1 : zs1.length ≤ 9223372036854775807) (hlen2 : zs2.length ≤ 9223372036854775807)
    (hL1 : -9223372036854775808 ≤ L1) (hR1 : L1 ≤ 9223372036854775807) (hL2 : -9223372036854775808 ≤ L2) (hR2 : L2 ≤ 9223372036854775807) (hb : ¬ (Good L1 zs1 ∧ Good L2 zs2)) :
    Calls Try.prog 9 #[.agg #[.int .i64 L1, v1], .agg #[.int .i64 L2, v2]] w fun e w' => e = .returned (.bool true) ∧ Kept [] w w' := by
  obtain ⟨ad1, e1, cp1, rfl⟩ : ∃ ad m cap, v1 = .slice ad m cap := by
    rcases hv1 with ⟨ad, cap, h3, h4⟩ | ⟨b, off, cap, h3, _, _⟩ <;> exact ⟨_, _, _, h3⟩
  obtain ⟨ad2, e2, cp2, rfl⟩ : ∃ ad m cap, v2 = .slice ad m cap := by
    rcases hv2 with ⟨ad, cap, h3, h4⟩ | ⟨b, off, cap, h3, _, _⟩ <;> exact ⟨_, _, _, h3⟩
  obtain ⟨W, hW⟩ : ∃ W, ((w.alloc (.cells #[.int .i64 L1, .slice ad1 e1 cp1] 24)).alloc (.cells #[.int .i64 L2, .slice ad2 e2 cp2] 24)) = W := ⟨_, rfl⟩
  have k0 : Kept [] w W := by rw [← hW]; exact ((Kept.refl _ _).alloc _).alloc _
  have gA : W.heap[w.heap.size]? = some (.cells #[.int .i64 L1, .slice ad1 e1 cp1] 24 (0, 0)) := by
    rw [← hW]
    exact alloc_heap_old (heap_alloc_new w _) _
  have gB : W.heap[w.heap.size + 1]? = some (.cells #[.int .i64 L2, .slice ad2 e2 cp2] 24 (0, 0)) := by
    rw [← hW]
    have := heap_alloc_new (w.alloc (.cells #[.int .i64 L1, .slice ad1 e1 cp1] 24)) (.cells #[.int .i64 L2, .slice ad2 e2 cp2] 24)
    simpa using this
  have HW := Lib.hid hW; clear hW
  by_cases hm1 : e1 ≤ 2147483647
  · have hd1 : decide (e1 ≤ 2147483647) = true := by simpa using hm1
    by_cases hm2 : e2 ≤ 2147483647
    · have hd2 : decide (e2 ≤ 2147483647) = true := by simpa using hm2
      by_cases hg1 : Good L1 zs1
      · have hg2 : ¬ Good L2 zs2 := fun h => hb ⟨hg1, h⟩
        clear hb
        go_enter Try.func9, Try.ntmps9
        go_wp2_with fail
        rw [HW.out]
        refine (zz_c L1 ad1 e1 cp1 _).mono ?_
        rintro e w1 ⟨rfl, k1⟩
        rw [hd1]
        obtain ⟨c0, c1, _, _, _, _⟩ := box2 (k1.heap (by simp) gB) (.bool true) (.bool true)
        go_wp2_with fail
        refine (zz_c L2 ad2 e2 cp2 _).mono ?_
        rintro e w2 ⟨rfl, k2⟩
        rw [hd2]
        have k12 := k1.trans0 k2
        obtain ⟨a0, a1, _, _, _, _⟩ := box2 (k12.heap (by simp) gA) (.bool true) (.bool true)
        obtain ⟨b0, b1, _, _, _, _⟩ := box2 (k12.heap (by simp) gB) (.bool true) (.bool true)
        go_wp2_with fail
        refine (both_bad2 L1 L2 _ _ zs1 zs2 _ (hv1.kept (k0.trans0 k12)) (hv2.kept (k0.trans0 k12)) hlen1 hlen2 hL1 hR1 hL2 hR2 hg1 hg2).mono ?_
        rintro e w3 ⟨d1, m1, c1, t1, d2, m2, c2, t2, rfl, k3⟩
        go_wp2_with fail
        go_ret
        exact ⟨rfl, ((((k0.trans0 k12).trans0 k3).alloc _).alloc _)⟩
      · clear hb
        go_enter Try.func9, Try.ntmps9
        go_wp2_with fail
        rw [HW.out]
        refine (zz_c L1 ad1 e1 cp1 _).mono ?_
        rintro e w1 ⟨rfl, k1⟩
        rw [hd1]
        obtain ⟨c0, c1, _, _, _, _⟩ := box2 (k1.heap (by simp) gB) (.bool true) (.bool true)
        go_wp2_with fail
        refine (zz_c L2 ad2 e2 cp2 _).mono ?_
        rintro e w2 ⟨rfl, k2⟩
        rw [hd2]
        have k12 := k1.trans0 k2
        obtain ⟨a0, a1, _, _, _, _⟩ := box2 (k12.heap (by simp) gA) (.bool true) (.bool true)
        obtain ⟨b0, b1, _, _, _, _⟩ := box2 (k12.heap (by simp) gB) (.bool true) (.bool true)
        go_wp2_with fail
        refine (both_bad1 L1 L2 _ _ zs1 zs2 _ (hv1.kept (k0.trans0 k12)) (hv2.kept (k0.trans0 k12)) hlen1 hlen2 hL1 hR1 hL2 hR2 hg1).mono ?_
        rintro e w3 ⟨d1, m1, c1, t1, d2, m2, c2, t2, rfl, k3⟩
        go_wp2_with fail
        go_ret
        exact ⟨rfl, ((((k0.trans0 k12).trans0 k3).alloc _).alloc _)⟩
    · have hd2 : decide (e2 ≤ 2147483647) = false := by simpa using hm2
      clear hb
      go_enter Try.func9, Try.ntmps9
      go_wp2_with fail
      rw [HW.out]
      refine (zz_c L1 ad1 e1 cp1 _).mono ?_
      rintro e w1 ⟨rfl, k1⟩
      rw [hd1]
      obtain ⟨c0, c1, _, _, _, _⟩ := box2 (k1.heap (by simp) gB) (.bool true) (.bool true)
      go_wp2_with fail
      refine (zz_c L2 ad2 e2 cp2 _).mono ?_
      rintro e w2 ⟨rfl, k2⟩
      rw [hd2]
      have k12 := k1.trans0 k2
      obtain ⟨a0, a1, _, _, _, _⟩ := box2 (k12.heap (by simp) gA) (.bool true) (.bool true)
      obtain ⟨b0, b1, _, _, _, _⟩ := box2 (k12.heap (by simp) gB) (.bool true) (.bool true)
      go_wp2_with fail
      go_ret
      exact ⟨rfl, k0.trans0 k12⟩
  · have hd1 : decide (e1 ≤ 2147483647) = false := by simpa using hm1
    clear hb
    go_enter Try.func9, Try.ntmps9
    go_wp2_with fail
    rw [HW.out]
    refine (zz_c L1 ad1 e1 cp1 _).mono ?_
    rintro e w1 ⟨rfl, k1⟩
    rw [hd1]
    obtain ⟨c0, c1, _, _, _, _⟩ := box2 (k1.heap (by simp) gB) (.bool true) (.bool true)
    go_wp2_with fail
    go_ret
    exact ⟨rfl, k0.trans0 k1⟩

set_option maxHeartbeats 2000000 in
theorem fnCopy_good (L1 L2 : Nat) (v1 v2 : Value) (on1 on2 : List Nat) (w : World) (hv1 : IntsAt w v1 on1) (hv2 : IntsAt w v2 on2) (hL1 : L1 ≤ 2000) (hL2 : L2 ≤ 2000) (hlen1 : on1.length ≤ 400) (hlen2 : on2.length ≤ 400) (hon1 : ∀ x ∈ on1, x < 2500) (hon2 : ∀ x ∈ on2, x < 2500) (hnn : lenOf L1 on1 = lenOf L2 on2) :
    Calls Try.prog 9 #[.agg #[.int .i64 L1, v1], .agg #[.int .i64 L2, v2]] w fun e w' => e = .returned (.bool true) ∧ Kept [] w w' := by
  have hn1 := lenOf_le L1 on1 2500 (by omega) hon1
  have hn2 := lenOf_le L2 on2 2500 (by omega) hon2
  obtain ⟨ad1, cp1, rfl⟩ := hv1.shape
  obtain ⟨ad2, cp2, rfl⟩ := hv2.shape
  have hd1 : decide (on1.length ≤ 2147483647) = true := by simp; omega
  have hd2 : decide (on2.length ≤ 2147483647) = true := by simp; omega
  obtain ⟨W, hW⟩ : ∃ W, ((w.alloc (.cells #[.int .i64 L1, .slice ad1 on1.length cp1] 24)).alloc (.cells #[.int .i64 L2, .slice ad2 on2.length cp2] 24)) = W := ⟨_, rfl⟩
  have k0 : Kept [] w W := by rw [← hW]; exact ((Kept.refl _ _).alloc _).alloc _
  have gA : W.heap[w.heap.size]? = some (.cells #[.int .i64 L1, .slice ad1 on1.length cp1] 24 (0, 0)) := by
    rw [← hW]
    exact alloc_heap_old (heap_alloc_new w _) _
  have gB : W.heap[w.heap.size + 1]? = some (.cells #[.int .i64 L2, .slice ad2 on2.length cp2] 24 (0, 0)) := by
    rw [← hW]
    have := heap_alloc_new (w.alloc (.cells #[.int .i64 L1, .slice ad1 on1.length cp1] 24)) (.cells #[.int .i64 L2, .slice ad2 on2.length cp2] 24)
    simpa using this
  have HW := Lib.hid hW; clear hW
  go_enter Try.func9, Try.ntmps9
  go_wp2_with fail
  rw [HW.out]
  refine (zz_c L1 ad1 on1.length cp1 _).mono ?_
  rintro e w1 ⟨rfl, k1⟩
  rw [hd1]
  obtain ⟨c0, c1, _, _, _, _⟩ := box2 (k1.heap (by simp) gB) (.bool true) (.bool true)
  go_wp2_with fail
  refine (zz_c L2 ad2 on2.length cp2 _).mono ?_
  rintro e w2 ⟨rfl, k2⟩
  rw [hd2]
  have k12 := k1.trans0 k2
  obtain ⟨a0, a1, _, _, _, _⟩ := box2 (k12.heap (by simp) gA) (.bool true) (.bool true)
  obtain ⟨b0, b1, _, _, _, _⟩ := box2 (k12.heap (by simp) gB) (.bool true) (.bool true)
  go_wp2_with fail
  refine (both_good L1 L2 _ _ on1 on2 _ (hv1.kept (k0.trans0 k12)) (hv2.kept (k0.trans0 k12)) hL1 hL2 hlen1 hlen2 hon1 hon2).mono ?_
  rintro e w3 ⟨s1, s2, rfl, hs1, hs2, k3⟩
  obtain ⟨x1, y1, rfl⟩ := hs1.shape
  obtain ⟨x2, y2, rfl⟩ := hs2.shape
  have k03 := (k0.trans0 k12).trans0 k3
  have fA := k3.heap (by simp) (k12.heap (by simp) gA)
  have fB := k3.heap (by simp) (k12.heap (by simp) gB)
  clear a0 a1 b0 b1 c0 c1 gA gB k1 k2 k12 k3
  obtain ⟨V, hV⟩ : ∃ V, ((w3.alloc (.cells #[.slice (some ⟨x1, 0, none⟩) (lenOf L1 on1) y1, .bool true] 28)).alloc (.cells #[.slice (some ⟨x2, 0, none⟩) (lenOf L2 on2) y2, .bool true] 28)) = V := ⟨_, rfl⟩
  have z3 : Kept [] w3 V := by rw [← hV]; exact ((Kept.refl _ _).alloc _).alloc _
  have gX : V.heap[w3.heap.size]? = some (.cells #[.slice (some ⟨x1, 0, none⟩) (lenOf L1 on1) y1, .bool true] 28 (0, 0)) := by
    rw [← hV]
    exact alloc_heap_old (heap_alloc_new w3 _) _
  have gY : V.heap[w3.heap.size + 1]? = some (.cells #[.slice (some ⟨x2, 0, none⟩) (lenOf L2 on2) y2, .bool true] 28 (0, 0)) := by
    rw [← hV]
    have := heap_alloc_new (w3.alloc (.cells #[.slice (some ⟨x1, 0, none⟩) (lenOf L1 on1) y1, .bool true] 28)) (.cells #[.slice (some ⟨x2, 0, none⟩) (lenOf L2 on2) y2, .bool true] 28)
    simpa using this
  have HV := Lib.hid hV; clear hV
  have wa0 : w3.cell? ⟨w.heap.size, 0, none⟩ = some (.int .i64 L1) := (cell_of_heap fA).trans rfl
  have wa1 : w3.cell? ⟨w.heap.size, 1, none⟩ = some (.slice ad1 on1.length cp1) := (cell_of_heap fA).trans rfl
  have wb0 : w3.cell? ⟨w.heap.size + 1, 0, none⟩ = some (.int .i64 L2) := (cell_of_heap fB).trans rfl
  have wb1 : w3.cell? ⟨w.heap.size + 1, 1, none⟩ = some (.slice ad2 on2.length cp2) := (cell_of_heap fB).trans rfl
  have wlA := lt_of_heap fA
  have wlB := lt_of_heap fB
  have wlB1 : w.heap.size + 1 < w3.heap.size + 1 := by omega
  have wlB2 : w.heap.size + 1 < w3.heap.size + 1 + 1 := by omega
  have wlA1 : w.heap.size < w3.heap.size + 1 := by omega
  have wlA2 : w.heap.size < w3.heap.size + 1 + 1 := by omega
  have fA := z3.heap (by simp) fA
  have fB := z3.heap (by simp) fB
  have hs1 := hs1.kept z3
  have hs2 := hs2.kept z3
  have hw1 := (hv1.kept k03).kept z3
  have hw2 := (hv2.kept k03).kept z3
  have kV := k03.trans0 z3
  clear z3
  obtain ⟨n1, hN1⟩ : ∃ n, lenOf L1 on1 = n := ⟨_, rfl⟩
  obtain ⟨n2, hN2⟩ : ∃ n, lenOf L2 on2 = n := ⟨_, rfl⟩
  rw [hN1] at hs1 gX HV hn1 ⊢
  rw [hN2] at hs2 gY HV hn2 ⊢
  have HN1 := Lib.hid hN1; have HN2 := Lib.hid hN2; clear hN1 hN2
  have hnn' : n1 = n2 := by rw [← HN1.out, ← HN2.out, hnn]
  have HNN := Lib.hid hnn; clear hnn
  subst hnn'
  clear HN2
  go_wp2_with fail
  rw [HV.out]
  have gZ := heap_alloc_new V (.cells #[.int .i64 n1] 3)
  have hVs : V.heap.size = w3.heap.size + 1 + 1 := by rw [← HV.out]; simp
  have z4 : Kept [] V (V.alloc (.cells #[.int .i64 n1] 3)) := (Kept.refl _ _).alloc _
  have fA := z4.heap (by simp) fA
  have fB := z4.heap (by simp) fB
  have gX := z4.heap (by simp) gX
  have gY := z4.heap (by simp) gY
  have hs1 := hs1.kept z4
  have hs2 := hs2.kept z4
  have hw1 := hw1.kept z4
  have hw2 := hw2.kept z4
  have kV := kV.trans0 z4
  rw [hVs] at gZ
  clear z4 wa0 wa1 wb0 wb1
  generalize (V.alloc (.cells #[.int .i64 n1] 3)) = U at *
  refine (implCopy_c L1 L2 _ _ on1 on2 U hw1 hw2 (by omega) (by omega) (by omega) (by omega) (fun x hx => by have := hon1 x hx; omega) (fun x hx => by have := hon2 x hx; omega) HNN.out).mono ?_
  rintro e w6 ⟨M6, v6, rfl, hM6', hM6b, hv6, k6⟩
  obtain ⟨ad6, cp6, rfl⟩ := hv6.shape
  generalize hl6 : (onL M6 (memOf on1)).length = len6 at *
  have HL6 := Lib.hid hl6; clear hl6
  have hM7 : M6 = n1 := by rw [hM6']; exact HN1.out
  subst hM7
  clear hM6'
  have gX6 := k6.heap (by simp) gX
  have gY6 := k6.heap (by simp) gY
  have gZ6 := k6.heap (by simp) gZ
  have x0 : w6.cell? ⟨w3.heap.size, 0, none⟩ = some (.slice (some ⟨x1, 0, none⟩) M6 y1) := (cell_of_heap gX6).trans rfl
  have yy0 : w6.cell? ⟨w3.heap.size + 1, 0, none⟩ = some (.slice (some ⟨x2, 0, none⟩) M6 y2) := (cell_of_heap gY6).trans rfl
  have hl61 := lt_of_heap gX6
  have hl62 := lt_of_heap gY6
  have hl63 := lt_of_heap gZ6
  go_wp2_with fail
  have k7 : Kept [] w6 (w6.alloc (.cells #[.int .i64 M6, .slice ad6 len6 cp6] 24)) := (Kept.refl _ _).alloc _
  have g7 := heap_alloc_new w6 (.cells #[.int .i64 M6, .slice ad6 len6 cp6] 24)
  have gX7 := k7.heap (by simp) gX6
  have gZ7 := k7.heap (by simp) gZ6
  have gY7 := k7.heap (by simp) gY6
  have hv7 := hv6.kept k7
  have hs7 := (hs1.kept k6).kept k7
  have kW := (kV.trans0 k6).trans0 k7
  clear k7 x0 yy0
  generalize (w6.alloc (.cells #[.int .i64 M6, .slice ad6 len6 cp6] 24)) = W7 at *
  refine (from_c M6 _ rfl 31 #[] #[.pointer (some ⟨w3.heap.size + 1 + 1, 0, none⟩), .pointer (some ⟨w3.heap.size, 0, none⟩), .pointer (some ⟨w3.heap.size + 1, 0, none⟩)] (fun i => decide (i < M6) && memOf on1 i) _ (by omega) (fun args w => by kernel_rfl) (fun i w' hi q => fnCopy_cl _ _ _ x1 M6 y1 i M6 (memOf on1) w' (q.heap (by simp) gZ7) (q.heap (by simp) gX7) (hs7.kept q) hi)).mono ?_
  rintro e w8 ⟨b8, rfl, r8, _, k8⟩
  have z0 : w8.cell? ⟨w3.heap.size + 1 + 1, 0, none⟩ = some (.int .i64 M6) := (cell_of_heap (k8.heap (by simp) gZ7)).trans rfl
  have g8 := k8.heap (by simp) g7
  have p0 : w8.cell? ⟨w6.heap.size, 0, none⟩ = some (.int .i64 M6) := (cell_of_heap g8).trans rfl
  have p1 : w8.cell? ⟨w6.heap.size, 1, none⟩ = some (.slice ad6 len6 cp6) := (cell_of_heap g8).trans rfl
  have hl8 := lt_of_heap g8
  have hl81 := lt_of_heap (k8.heap (by simp) gZ7)
  go_wp2_with fail
  refine (bits_c M6 (.slice ad6 len6 cp6) _ M6 (fun i => decide (i < M6) && memOf on1 i) true _ ?_ ⟨b8, _, rfl, r8.alloc _⟩ (by omega) (fun _ => rfl)).mono ?_
  · have hE : onL M6 (fun i => decide (i < M6) && memOf on1 i) = onL M6 (memOf on1) := onL_both _ _ _ _ fun j => by cases decide (j < M6) <;> simp
    rw [hE]
    exact (hv7.kept k8).kept ((Kept.refl _ _).alloc _)
  rintro e w9 ⟨rfl, k9⟩
  go_wp2_with fail
  go_ret
  exact ⟨rfl, ((kW.trans0 k8).alloc _).trans0 k9⟩

set_option maxHeartbeats 2000000 in
theorem fnCopy_un (L1 L2 : Nat) (v1 v2 : Value) (on1 on2 : List Nat) (w : World) (hv1 : IntsAt w v1 on1) (hv2 : IntsAt w v2 on2) (hL1 : L1 ≤ 2000) (hL2 : L2 ≤ 2000) (hlen1 : on1.length ≤ 400) (hlen2 : on2.length ≤ 400) (hon1 : ∀ x ∈ on1, x < 2500) (hon2 : ∀ x ∈ on2, x < 2500) (hnn : ¬ lenOf L1 on1 = lenOf L2 on2) :
    Calls Try.prog 9 #[.agg #[.int .i64 L1, v1], .agg #[.int .i64 L2, v2]] w fun e w' => e = .returned (.bool true) ∧ Kept [] w w' := by
  have hn1 := lenOf_le L1 on1 2500 (by omega) hon1
  have hn2 := lenOf_le L2 on2 2500 (by omega) hon2
  obtain ⟨ad1, cp1, rfl⟩ := hv1.shape
  obtain ⟨ad2, cp2, rfl⟩ := hv2.shape
  have hd1 : decide (on1.length ≤ 2147483647) = true := by simp; omega
  have hd2 : decide (on2.length ≤ 2147483647) = true := by simp; omega
  obtain ⟨W, hW⟩ : ∃ W, ((w.alloc (.cells #[.int .i64 L1, .slice ad1 on1.length cp1] 24)).alloc (.cells #[.int .i64 L2, .slice ad2 on2.length cp2] 24)) = W := ⟨_, rfl⟩
  have k0 : Kept [] w W := by rw [← hW]; exact ((Kept.refl _ _).alloc _).alloc _
  have gA : W.heap[w.heap.size]? = some (.cells #[.int .i64 L1, .slice ad1 on1.length cp1] 24 (0, 0)) := by
    rw [← hW]
    exact alloc_heap_old (heap_alloc_new w _) _
  have gB : W.heap[w.heap.size + 1]? = some (.cells #[.int .i64 L2, .slice ad2 on2.length cp2] 24 (0, 0)) := by
    rw [← hW]
    have := heap_alloc_new (w.alloc (.cells #[.int .i64 L1, .slice ad1 on1.length cp1] 24)) (.cells #[.int .i64 L2, .slice ad2 on2.length cp2] 24)
    simpa using this
  have HW := Lib.hid hW; clear hW
  go_enter Try.func9, Try.ntmps9
  go_wp2_with fail
  rw [HW.out]
  refine (zz_c L1 ad1 on1.length cp1 _).mono ?_
  rintro e w1 ⟨rfl, k1⟩
  rw [hd1]
  obtain ⟨c0, c1, _, _, _, _⟩ := box2 (k1.heap (by simp) gB) (.bool true) (.bool true)
  go_wp2_with fail
  refine (zz_c L2 ad2 on2.length cp2 _).mono ?_
  rintro e w2 ⟨rfl, k2⟩
  rw [hd2]
  have k12 := k1.trans0 k2
  obtain ⟨a0, a1, _, _, _, _⟩ := box2 (k12.heap (by simp) gA) (.bool true) (.bool true)
  obtain ⟨b0, b1, _, _, _, _⟩ := box2 (k12.heap (by simp) gB) (.bool true) (.bool true)
  go_wp2_with fail
  refine (both_good L1 L2 _ _ on1 on2 _ (hv1.kept (k0.trans0 k12)) (hv2.kept (k0.trans0 k12)) hL1 hL2 hlen1 hlen2 hon1 hon2).mono ?_
  rintro e w3 ⟨s1, s2, rfl, hs1, hs2, k3⟩
  obtain ⟨x1, y1, rfl⟩ := hs1.shape
  obtain ⟨x2, y2, rfl⟩ := hs2.shape
  have k03 := (k0.trans0 k12).trans0 k3
  have fA := k3.heap (by simp) (k12.heap (by simp) gA)
  have fB := k3.heap (by simp) (k12.heap (by simp) gB)
  clear a0 a1 b0 b1 c0 c1 gA gB k1 k2 k12 k3
  obtain ⟨V, hV⟩ : ∃ V, ((w3.alloc (.cells #[.slice (some ⟨x1, 0, none⟩) (lenOf L1 on1) y1, .bool true] 28)).alloc (.cells #[.slice (some ⟨x2, 0, none⟩) (lenOf L2 on2) y2, .bool true] 28)) = V := ⟨_, rfl⟩
  have z3 : Kept [] w3 V := by rw [← hV]; exact ((Kept.refl _ _).alloc _).alloc _
  have gX : V.heap[w3.heap.size]? = some (.cells #[.slice (some ⟨x1, 0, none⟩) (lenOf L1 on1) y1, .bool true] 28 (0, 0)) := by
    rw [← hV]
    exact alloc_heap_old (heap_alloc_new w3 _) _
  have gY : V.heap[w3.heap.size + 1]? = some (.cells #[.slice (some ⟨x2, 0, none⟩) (lenOf L2 on2) y2, .bool true] 28 (0, 0)) := by
    rw [← hV]
    have := heap_alloc_new (w3.alloc (.cells #[.slice (some ⟨x1, 0, none⟩) (lenOf L1 on1) y1, .bool true] 28)) (.cells #[.slice (some ⟨x2, 0, none⟩) (lenOf L2 on2) y2, .bool true] 28)
    simpa using this
  have HV := Lib.hid hV; clear hV
  have fA := z3.heap (by simp) fA
  have fB := z3.heap (by simp) fB
  have hs1 := hs1.kept z3
  have hs2 := hs2.kept z3
  have hw1 := (hv1.kept k03).kept z3
  have hw2 := (hv2.kept k03).kept z3
  have kV := k03.trans0 z3
  clear z3
  obtain ⟨n1, hN1⟩ : ∃ n, lenOf L1 on1 = n := ⟨_, rfl⟩
  obtain ⟨n2, hN2⟩ : ∃ n, lenOf L2 on2 = n := ⟨_, rfl⟩
  rw [hN1] at hs1 gX HV hn1 ⊢
  rw [hN2] at hs2 gY HV hn2 ⊢
  have HN1 := Lib.hid hN1; have HN2 := Lib.hid hN2; clear hN1 hN2
  have hnn' : ¬ (n1 : Int) = (n2 : Int) := by rw [← HN1.out, ← HN2.out]; omega
  have hnn2 : ¬ n1 = n2 := by omega
  go_wp2_with fail
  all_goals
    go_ret
    rw [HV.out]
    exact ⟨rfl, kV.alloc _⟩

theorem fnCopy_c (L1 L2 : Int) (v1 v2 : Value) (zs1 zs2 : List Int) (w : World) (hv1 : IntsZ w v1 zs1) (hv2 : IntsZ w v2 zs2) (hlen1 : zs1.length ≤ 9223372036854775807) (hlen2 : zs2.length ≤ 9223372036854775807)
    (hL1 : -9223372036854775808 ≤ L1) (hR1 : L1 ≤ 9223372036854775807) (hL2 : -9223372036854775808 ≤ L2) (hR2 : L2 ≤ 9223372036854775807) :
    Calls Try.prog 9 #[.agg #[.int .i64 L1, v1], .agg #[.int .i64 L2, v2]] w fun e w' => e = .returned (.bool true) ∧ Kept [] w w' := by
  by_cases hg : Good L1 zs1 ∧ Good L2 zs2
  · obtain ⟨n1, on1, rfl, q1, q2, q3, q4⟩ := hv1.good hg.1
    obtain ⟨n2, on2, rfl, p1, p2, p3, p4⟩ := hv2.good hg.2
    by_cases hnn : lenOf n1 on1 = lenOf n2 on2
    · exact fnCopy_good n1 n2 v1 v2 on1 on2 w q4 p4 q1 p1 q2 p2 q3 p3 hnn
    · exact fnCopy_un n1 n2 v1 v2 on1 on2 w q4 p4 q1 p1 q2 p2 q3 p3 hnn
  · exact fnCopy_bad L1 L2 v1 v2 zs1 zs2 w hv1 hv2 hlen1 hlen2 hL1 hR1 hL2 hR2 hg

open Go.ChangeShapes Go.WideShapes Go.ChangeAt Go.Joins

set_option maxRecDepth 100000 in
theorem fnCopy_lifted (os : Os) (started : os.Started) (H : Type) (enc : TypeId × Value → H) :
    ReturnsInHanded {} Try.checked os 9 .any (Rows.fnCopySpec.pre6 enc Try.prog Try.f9 Rows.fnCopyRow.domain false) (Rows.fnCopySpec.post enc Try.prog Try.f9 false true false false) := by
  refine returnsInHanded_of_change (C := Try.checked) Try.own started (by kernel_rfl) Try.func9
    (ChangeSpec.witness6 (enc := enc) (C := Try.checked) false ⟨#[], #[.agg #[.int .i64 0, .slice none 0 0], .agg #[.int .i64 0, .slice none 0 0]], []⟩ 8 (by kernel_rfl) (by kernel_rfl) (by kernel_rfl) (by kernel_rfl)) ?_
  intro W base args ds gs before hval0 hW _ _
  have hval : ∀ (j : Nat) t v, Try.f9.params[j]? = some t → args[j]? = some v → Value.okWide Try.prog W .any base t v := hval0
  have hW' := hW
  obtain ⟨p, q, hA0, hV, rfl, _, _⟩ := hW
  have hA : DataW.TrodAll enc Try.prog W 0 (fun _ => true) true Try.f9.params.toList args.toList ds p := hA0
  rw [Try.params9] at hA hval
  obtain ⟨v0, v1, d0, d1, p0, p1, rfl, rfl, rfl, h0, h1⟩ := trodAll_two hA
  obtain ⟨rfl, rfl⟩ := trodVars_none hV
  obtain ⟨L1, s1, zs1, rfl, hz1, hlen1, hL1, hR1⟩ := bits_read (hval 1 24 v1 rfl rfl) h1
  obtain ⟨L0, s0, zs0, rfl, hz0, hlen0, hL0, hR0⟩ := bits_read (hval 0 24 v0 rfl rfl) h0
  clear hA0 hval0
  simp only [List.append_nil] at hW'
  have hlt0 : ∀ x ∈ p0, x.block < W.heap.size := fun x hx => by simpa using hW'.lt x (by simp [hx])
  have hlt1 : ∀ x ∈ p1, x.block < W.heap.size := fun x hx => by simpa using hW'.lt x (by simp [hx])
  refine (fnCopy_c L0 L1 s0 s1 zs0 zs1 W hz0 hz1 hlen0 hlen1 hL0 hR0 hL1 hR1).mono fun e W' ⟨he, hk⟩ => ?_
  subst he
  have hb := hk.below
  refine ⟨_, rfl, _, _, _, [], p0 ++ p1, [], hW', ?_, ?_, rfl, hb.frame _, fun h => by cases h⟩
  · exact trodAll_mk1 (shut_bool Try.underlying4 true)
  · exact trodAll_mk2 (Below.trod Try.laidOut (by kernel_rfl) (of_decide_eq_true (by kernel_rfl)) h0 hb hlt0) (Below.trod Try.laidOut (by kernel_rfl) (of_decide_eq_true (by kernel_rfl)) h1 hb hlt1)

theorem fnCopy_holds : Rows.FnCopySaid :=
  OpenClaim.holds_of_wide 9 Try.f9 rfl rfl rfl rfl rfl rfl rfl ⟨rfl, rfl, rfl, rfl, rfl⟩ rfl rfl rfl rfl rfl (by kernel_rfl) Try.func9 (by kernel_rfl)
    (of_decide_eq_true (by kernel_rfl)) (by unfold Func.isWrapper; first | (rw [if_pos (by decide +kernel)]; kernel_rfl) | (rw [if_neg (by decide +kernel)]; exact ⟨rfl, rfl⟩))
    (fun os started H enc _ => fnCopy_lifted os started H enc)

end Go.Proofs.Ytfdddnpmgaoddaa

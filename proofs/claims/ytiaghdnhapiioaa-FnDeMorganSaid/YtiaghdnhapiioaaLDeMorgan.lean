/-
  laws.FnDeMorgan: for every input.
-/
import Derived.Test.YtiaghdnhapiioaaTUn
import Derived.Test.YtiaghdnhapiioaaTCo
import Derived.Test.YtiaghdnhapiioaaTIn
import Derived.Test.YtiaghdnhapiioaaKDeMorgan
import Derived.Test.YtiaghdnhapiioaaDmL
import Derived.Test.YtiaghdnhapiioaaBothBad
namespace Go.Proofs.Ytiaghdnhapiioaa
set_option linter.unusedSimpArgs false
set_option linter.unusedVariables false
open Go.RowKit

set_option maxHeartbeats 1000000 in
set_option maxRecDepth 100000 in
theorem fnDeMorgan_bad (L1 L2 : Int) (v1 v2 : Value) (zs1 zs2 : List Int) (w : World) (hv1 : IntsZ w v1 zs1) (hv2 : IntsZ w v2 zs2) (hlen1 : zs1.length ≤ 9223372036854775807) (hlen2 : zs2.length ≤ 9223372036854775807)
    (hL1 : -9223372036854775808 ≤ L1) (hR1 : L1 ≤ 9223372036854775807) (hL2 : -9223372036854775808 ≤ L2) (hR2 : L2 ≤ 9223372036854775807) (hb : ¬ (Good L1 zs1 ∧ Good L2 zs2)) :
    Calls Try.prog 5 #[.agg #[.int .i64 L1, v1], .agg #[.int .i64 L2, v2]] w fun e w' => e = .returned (.bool true) ∧ Kept [] w w' := by
  obtain ⟨ad1, e1, cp1, rfl⟩ : ∃ ad m cap, v1 = .slice ad m cap := by
    rcases hv1 with ⟨ad, cap, h3, h4⟩ | ⟨b, off, cap, h3, _, _⟩ <;> exact ⟨_, _, _, h3⟩
  obtain ⟨ad2, e2, cp2, rfl⟩ : ∃ ad m cap, v2 = .slice ad m cap := by
    rcases hv2 with ⟨ad, cap, h3, h4⟩ | ⟨b, off, cap, h3, _, _⟩ <;> exact ⟨_, _, _, h3⟩
  obtain ⟨W, hW⟩ : ∃ W, ((w.alloc (.cells #[.int .i64 L1, .slice ad1 e1 cp1] 24)).alloc (.cells #[.int .i64 L2, .slice ad2 e2 cp2] 24)) = W := ⟨_, rfl⟩
  have k0 : Kept [] w W := by rw [← hW]; exact ((Kept.refl _ _).alloc _).alloc _
  have gA : W.heap[w.heap.size]? = some (.cells #[.int .i64 L1, .slice ad1 e1 cp1] 24 (0, 0)) := by
    rw [← hW]
    exact alloc_heap_old (heap_alloc_new w _) _
  have gB : W.heap[w.heap.size + 1]? = some (.cells #[.int .i64 L2, .slice ad2 e2 cp2] 24 (0, 0)) := by
    rw [← hW]
    have := heap_alloc_new (w.alloc (.cells #[.int .i64 L1, .slice ad1 e1 cp1] 24)) (.cells #[.int .i64 L2, .slice ad2 e2 cp2] 24)
    simpa using this
  have HW := Lib.hid hW; clear hW
  by_cases hm1 : e1 ≤ 2147483647
  · have hd1 : decide (e1 ≤ 2147483647) = true := by simpa using hm1
    by_cases hm2 : e2 ≤ 2147483647
    · have hd2 : decide (e2 ≤ 2147483647) = true := by simpa using hm2
      by_cases hg1 : Good L1 zs1
      · have hg2 : ¬ Good L2 zs2 := fun h => hb ⟨hg1, h⟩
        clear hb
        go_enter Try.func5, Try.ntmps5
        go_wp2_with fail
        rw [HW.out]
        refine (zz_c L1 ad1 e1 cp1 _).mono ?_
        rintro e w1 ⟨rfl, k1⟩
        rw [hd1]
        obtain ⟨c0, c1, _, _, _, _⟩ := box2 (k1.heap (by simp) gB) (.bool true) (.bool true)
        go_wp2_with fail
        refine (zz_c L2 ad2 e2 cp2 _).mono ?_
        rintro e w2 ⟨rfl, k2⟩
        rw [hd2]
        have k12 := k1.trans0 k2
        obtain ⟨a0, a1, _, _, _, _⟩ := box2 (k12.heap (by simp) gA) (.bool true) (.bool true)
        obtain ⟨b0, b1, _, _, _, _⟩ := box2 (k12.heap (by simp) gB) (.bool true) (.bool true)
        go_wp2_with fail
        refine (both_bad2 L1 L2 _ _ zs1 zs2 _ (hv1.kept (k0.trans0 k12)) (hv2.kept (k0.trans0 k12)) hlen1 hlen2 hL1 hR1 hL2 hR2 hg1 hg2).mono ?_
        rintro e w3 ⟨d1, m1, c1, t1, d2, m2, c2, t2, rfl, k3⟩
        go_wp2_with fail
        go_ret
        exact ⟨rfl, ((((k0.trans0 k12).trans0 k3).alloc _).alloc _)⟩
      · clear hb
        go_enter Try.func5, Try.ntmps5
        go_wp2_with fail
        rw [HW.out]
        refine (zz_c L1 ad1 e1 cp1 _).mono ?_
        rintro e w1 ⟨rfl, k1⟩
        rw [hd1]
        obtain ⟨c0, c1, _, _, _, _⟩ := box2 (k1.heap (by simp) gB) (.bool true) (.bool true)
        go_wp2_with fail
        refine (zz_c L2 ad2 e2 cp2 _).mono ?_
        rintro e w2 ⟨rfl, k2⟩
        rw [hd2]
        have k12 := k1.trans0 k2
        obtain ⟨a0, a1, _, _, _, _⟩ := box2 (k12.heap (by simp) gA) (.bool true) (.bool true)
        obtain ⟨b0, b1, _, _, _, _⟩ := box2 (k12.heap (by simp) gB) (.bool true) (.bool true)
        go_wp2_with fail
        refine (both_bad1 L1 L2 _ _ zs1 zs2 _ (hv1.kept (k0.trans0 k12)) (hv2.kept (k0.trans0 k12)) hlen1 hlen2 hL1 hR1 hL2 hR2 hg1).mono ?_
        rintro e w3 ⟨d1, m1, c1, t1, d2, m2, c2, t2, rfl, k3⟩
        go_wp2_with fail
        go_ret
        exact ⟨rfl, ((((k0.trans0 k12).trans0 k3).alloc _).alloc _)⟩
    · have hd2 : decide (e2 ≤ 2147483647) = false := by simpa using hm2
      clear hb
      go_enter Try.func5, Try.ntmps5
      go_wp2_with fail
      rw [HW.out]
      refine (zz_c L1 ad1 e1 cp1 _).mono ?_
      rintro e w1 ⟨rfl, k1⟩
      rw [hd1]
      obtain ⟨c0, c1, _, _, _, _⟩ := box2 (k1.heap (by simp) gB) (.bool true) (.bool true)
      go_wp2_with fail
      refine (zz_c L2 ad2 e2 cp2 _).mono ?_
      rintro e w2 ⟨rfl, k2⟩
      rw [hd2]
      have k12 := k1.trans0 k2
      obtain ⟨a0, a1, _, _, _, _⟩ := box2 (k12.heap (by simp) gA) (.bool true) (.bool true)
      obtain ⟨b0, b1, _, _, _, _⟩ := box2 (k12.heap (by simp) gB) (.bool true) (.bool true)
      go_wp2_with fail
      go_ret
      exact ⟨rfl, k0.trans0 k12⟩
  · have hd1 : decide (e1 ≤ 2147483647) = false := by simpa using hm1
    clear hb
    go_enter Try.func5, Try.ntmps5
    go_wp2_with fail
    rw [HW.out]
    refine (zz_c L1 ad1 e1 cp1 _).mono ?_
    rintro e w1 ⟨rfl, k1⟩
    rw [hd1]
    obtain ⟨c0, c1, _, _, _, _⟩ := box2 (k1.heap (by simp) gB) (.bool true) (.bool true)
    go_wp2_with fail
    go_ret
    exact ⟨rfl, k0.trans0 k1⟩

set_option maxHeartbeats 2000000 in
theorem fnDeMorgan_other (L1 L2 : Nat) (v1 v2 : Value) (on1 on2 : List Nat) (w : World) (hv1 : IntsAt w v1 on1) (hv2 : IntsAt w v2 on2) (hL1 : L1 ≤ 2000) (hL2 : L2 ≤ 2000) (hlen1 : on1.length ≤ 400) (hlen2 : on2.length ≤ 400) (hon1 : ∀ x ∈ on1, x < 2500) (hon2 : ∀ x ∈ on2, x < 2500) (hdiff : lenOf L1 on1 ≠ lenOf L2 on2) :
    Calls Try.prog 5 #[.agg #[.int .i64 L1, v1], .agg #[.int .i64 L2, v2]] w fun e w' => e = .returned (.bool true) ∧ Kept [] w w' := by
  have hn1 := lenOf_le L1 on1 2500 (by omega) hon1
  have hn2 := lenOf_le L2 on2 2500 (by omega) hon2
  obtain ⟨ad1, cp1, rfl⟩ := hv1.shape
  obtain ⟨ad2, cp2, rfl⟩ := hv2.shape
  have hd1 : decide (on1.length ≤ 2147483647) = true := by simp; omega
  have hd2 : decide (on2.length ≤ 2147483647) = true := by simp; omega
  obtain ⟨W, hW⟩ : ∃ W, ((w.alloc (.cells #[.int .i64 L1, .slice ad1 on1.length cp1] 24)).alloc (.cells #[.int .i64 L2, .slice ad2 on2.length cp2] 24)) = W := ⟨_, rfl⟩
  have k0 : Kept [] w W := by rw [← hW]; exact ((Kept.refl _ _).alloc _).alloc _
  have gA : W.heap[w.heap.size]? = some (.cells #[.int .i64 L1, .slice ad1 on1.length cp1] 24 (0, 0)) := by
    rw [← hW]
    exact alloc_heap_old (heap_alloc_new w _) _
  have gB : W.heap[w.heap.size + 1]? = some (.cells #[.int .i64 L2, .slice ad2 on2.length cp2] 24 (0, 0)) := by
    rw [← hW]
    have := heap_alloc_new (w.alloc (.cells #[.int .i64 L1, .slice ad1 on1.length cp1] 24)) (.cells #[.int .i64 L2, .slice ad2 on2.length cp2] 24)
    simpa using this
  have HW := Lib.hid hW; clear hW
  go_enter Try.func5, Try.ntmps5
  go_wp2_with fail
  rw [HW.out]
  refine (zz_c L1 ad1 on1.length cp1 _).mono ?_
  rintro e w1 ⟨rfl, k1⟩
  rw [hd1]
  obtain ⟨c0, c1, _, _, _, _⟩ := box2 (k1.heap (by simp) gB) (.bool true) (.bool true)
  go_wp2_with fail
  refine (zz_c L2 ad2 on2.length cp2 _).mono ?_
  rintro e w2 ⟨rfl, k2⟩
  rw [hd2]
  have k12 := k1.trans0 k2
  obtain ⟨a0, a1, _, _, _, _⟩ := box2 (k12.heap (by simp) gA) (.bool true) (.bool true)
  obtain ⟨b0, b1, _, _, _, _⟩ := box2 (k12.heap (by simp) gB) (.bool true) (.bool true)
  go_wp2_with fail
  refine (both_good L1 L2 _ _ on1 on2 _ (hv1.kept (k0.trans0 k12)) (hv2.kept (k0.trans0 k12)) hL1 hL2 hlen1 hlen2 hon1 hon2).mono ?_
  rintro e w3 ⟨s1, s2, rfl, hs1, hs2, k3⟩
  obtain ⟨x1, y1, rfl⟩ := hs1.shape
  obtain ⟨x2, y2, rfl⟩ := hs2.shape
  have k03 := (k0.trans0 k12).trans0 k3
  have fA := k3.heap (by simp) (k12.heap (by simp) gA)
  have fB := k3.heap (by simp) (k12.heap (by simp) gB)
  clear a0 a1 b0 b1 c0 c1 gA gB k1 k2 k12 k3
  obtain ⟨V, hV⟩ : ∃ V, ((w3.alloc (.cells #[.slice (some ⟨x1, 0, none⟩) (lenOf L1 on1) y1, .bool true] 28)).alloc (.cells #[.slice (some ⟨x2, 0, none⟩) (lenOf L2 on2) y2, .bool true] 28)) = V := ⟨_, rfl⟩
  have z3 : Kept [] w3 V := by rw [← hV]; exact ((Kept.refl _ _).alloc _).alloc _
  have gX : V.heap[w3.heap.size]? = some (.cells #[.slice (some ⟨x1, 0, none⟩) (lenOf L1 on1) y1, .bool true] 28 (0, 0)) := by
    rw [← hV]
    exact alloc_heap_old (heap_alloc_new w3 _) _
  have gY : V.heap[w3.heap.size + 1]? = some (.cells #[.slice (some ⟨x2, 0, none⟩) (lenOf L2 on2) y2, .bool true] 28 (0, 0)) := by
    rw [← hV]
    have := heap_alloc_new (w3.alloc (.cells #[.slice (some ⟨x1, 0, none⟩) (lenOf L1 on1) y1, .bool true] 28)) (.cells #[.slice (some ⟨x2, 0, none⟩) (lenOf L2 on2) y2, .bool true] 28)
    simpa using this
  have HV := Lib.hid hV; clear hV
  have fA := z3.heap (by simp) fA
  have fB := z3.heap (by simp) fB
  have hs1 := hs1.kept z3
  have hs2 := hs2.kept z3
  have hw1 := (hv1.kept k03).kept z3
  have hw2 := (hv2.kept k03).kept z3
  have kV := k03.trans0 z3
  clear z3
  obtain ⟨n1, hN1⟩ : ∃ n, lenOf L1 on1 = n := ⟨_, rfl⟩
  obtain ⟨n2, hN2⟩ : ∃ n, lenOf L2 on2 = n := ⟨_, rfl⟩
  rw [hN1] at hs1 gX HV hn1 ⊢
  rw [hN2] at hs2 gY HV hn2 ⊢
  have HN1 := Lib.hid hN1; have HN2 := Lib.hid hN2; clear hN1 hN2
  have A0 : ∀ w', Kept [] V w' → w'.cell? ⟨w.heap.size, 0, none⟩ = some (.int .i64 L1) := fun w' k => (cell_of_heap (k.heap (by simp) fA)).trans rfl
  have A1 : ∀ w', Kept [] V w' → w'.cell? ⟨w.heap.size, 1, none⟩ = some (.slice ad1 on1.length cp1) := fun w' k => (cell_of_heap (k.heap (by simp) fA)).trans rfl
  have B0 : ∀ w', Kept [] V w' → w'.cell? ⟨w.heap.size + 1, 0, none⟩ = some (.int .i64 L2) := fun w' k => (cell_of_heap (k.heap (by simp) fB)).trans rfl
  have B1 : ∀ w', Kept [] V w' → w'.cell? ⟨w.heap.size + 1, 1, none⟩ = some (.slice ad2 on2.length cp2) := fun w' k => (cell_of_heap (k.heap (by simp) fB)).trans rfl
  have X0 : ∀ w', Kept [] V w' → w'.cell? ⟨w3.heap.size, 0, none⟩ = some (.slice (some ⟨x1, 0, none⟩) n1 y1) := fun w' k => (cell_of_heap (k.heap (by simp) gX)).trans rfl
  have X1 : ∀ w', Kept [] V w' → w'.cell? ⟨w3.heap.size, 1, none⟩ = some (.bool true) := fun w' k => (cell_of_heap (k.heap (by simp) gX)).trans rfl
  have Y0 : ∀ w', Kept [] V w' → w'.cell? ⟨w3.heap.size + 1, 0, none⟩ = some (.slice (some ⟨x2, 0, none⟩) n2 y2) := fun w' k => (cell_of_heap (k.heap (by simp) gY)).trans rfl
  have Y1 : ∀ w', Kept [] V w' → w'.cell? ⟨w3.heap.size + 1, 1, none⟩ = some (.bool true) := fun w' k => (cell_of_heap (k.heap (by simp) gY)).trans rfl
  have x0 := X0 V (Kept.refl _ _); have y0 := Y0 V (Kept.refl _ _)
  rw [← HV.out] at x0 y0
  have hne : ¬ (n1 : Int) = (n2 : Int) := by have h1 := HN1.out; have h2 := HN2.out; omega
  have hneb : ((n1 : Int) != (n2 : Int)) = true := by simp; omega
  go_wp2_with fail
  rw [HV.out]
  go_ret
  exact ⟨rfl, kV⟩

set_option maxHeartbeats 8000000 in
set_option maxRecDepth 100000 in
theorem fnDeMorgan_good (L1 L2 : Nat) (v1 v2 : Value) (on1 on2 : List Nat) (w : World) (hv1 : IntsAt w v1 on1) (hv2 : IntsAt w v2 on2) (hL1 : L1 ≤ 2000) (hL2 : L2 ≤ 2000) (hlen1 : on1.length ≤ 400) (hlen2 : on2.length ≤ 400) (hon1 : ∀ x ∈ on1, x < 2500) (hon2 : ∀ x ∈ on2, x < 2500) (hsame : lenOf L1 on1 = lenOf L2 on2) :
    Calls Try.prog 5 #[.agg #[.int .i64 L1, v1], .agg #[.int .i64 L2, v2]] w fun e w' => e = .returned (.bool true) ∧ Kept [] w w' := by
  have hn1 := lenOf_le L1 on1 2500 (by omega) hon1
  have hn2 := lenOf_le L2 on2 2500 (by omega) hon2
  obtain ⟨ad1, cp1, rfl⟩ := hv1.shape
  obtain ⟨ad2, cp2, rfl⟩ := hv2.shape
  have hd1 : decide (on1.length ≤ 2147483647) = true := by simp; omega
  have hd2 : decide (on2.length ≤ 2147483647) = true := by simp; omega
  obtain ⟨W, hW⟩ : ∃ W, ((w.alloc (.cells #[.int .i64 L1, .slice ad1 on1.length cp1] 24)).alloc (.cells #[.int .i64 L2, .slice ad2 on2.length cp2] 24)) = W := ⟨_, rfl⟩
  have k0 : Kept [] w W := by rw [← hW]; exact ((Kept.refl _ _).alloc _).alloc _
  have gA : W.heap[w.heap.size]? = some (.cells #[.int .i64 L1, .slice ad1 on1.length cp1] 24 (0, 0)) := by
    rw [← hW]
    exact alloc_heap_old (heap_alloc_new w _) _
  have gB : W.heap[w.heap.size + 1]? = some (.cells #[.int .i64 L2, .slice ad2 on2.length cp2] 24 (0, 0)) := by
    rw [← hW]
    have := heap_alloc_new (w.alloc (.cells #[.int .i64 L1, .slice ad1 on1.length cp1] 24)) (.cells #[.int .i64 L2, .slice ad2 on2.length cp2] 24)
    simpa using this
  have HW := Lib.hid hW; clear hW
  go_enter Try.func5, Try.ntmps5
  go_wp2_with fail
  rw [HW.out]
  refine (zz_c L1 ad1 on1.length cp1 _).mono ?_
  rintro e w1 ⟨rfl, k1⟩
  rw [hd1]
  obtain ⟨c0, c1, _, _, _, _⟩ := box2 (k1.heap (by simp) gB) (.bool true) (.bool true)
  go_wp2_with fail
  refine (zz_c L2 ad2 on2.length cp2 _).mono ?_
  rintro e w2 ⟨rfl, k2⟩
  rw [hd2]
  have k12 := k1.trans0 k2
  obtain ⟨a0, a1, _, _, _, _⟩ := box2 (k12.heap (by simp) gA) (.bool true) (.bool true)
  obtain ⟨b0, b1, _, _, _, _⟩ := box2 (k12.heap (by simp) gB) (.bool true) (.bool true)
  go_wp2_with fail
  refine (both_good L1 L2 _ _ on1 on2 _ (hv1.kept (k0.trans0 k12)) (hv2.kept (k0.trans0 k12)) hL1 hL2 hlen1 hlen2 hon1 hon2).mono ?_
  rintro e w3 ⟨s1, s2, rfl, hs1, hs2, k3⟩
  obtain ⟨x1, y1, rfl⟩ := hs1.shape
  obtain ⟨x2, y2, rfl⟩ := hs2.shape
  have k03 := (k0.trans0 k12).trans0 k3
  have fA := k3.heap (by simp) (k12.heap (by simp) gA)
  have fB := k3.heap (by simp) (k12.heap (by simp) gB)
  clear a0 a1 b0 b1 c0 c1 gA gB k1 k2 k12 k3
  obtain ⟨V, hV⟩ : ∃ V, ((w3.alloc (.cells #[.slice (some ⟨x1, 0, none⟩) (lenOf L1 on1) y1, .bool true] 28)).alloc (.cells #[.slice (some ⟨x2, 0, none⟩) (lenOf L2 on2) y2, .bool true] 28)) = V := ⟨_, rfl⟩
  have z3 : Kept [] w3 V := by rw [← hV]; exact ((Kept.refl _ _).alloc _).alloc _
  have gX : V.heap[w3.heap.size]? = some (.cells #[.slice (some ⟨x1, 0, none⟩) (lenOf L1 on1) y1, .bool true] 28 (0, 0)) := by
    rw [← hV]
    exact alloc_heap_old (heap_alloc_new w3 _) _
  have gY : V.heap[w3.heap.size + 1]? = some (.cells #[.slice (some ⟨x2, 0, none⟩) (lenOf L2 on2) y2, .bool true] 28 (0, 0)) := by
    rw [← hV]
    have := heap_alloc_new (w3.alloc (.cells #[.slice (some ⟨x1, 0, none⟩) (lenOf L1 on1) y1, .bool true] 28)) (.cells #[.slice (some ⟨x2, 0, none⟩) (lenOf L2 on2) y2, .bool true] 28)
    simpa using this
  have HV := Lib.hid hV; clear hV
  have fA := z3.heap (by simp) fA
  have fB := z3.heap (by simp) fB
  have hs1 := hs1.kept z3
  have hs2 := hs2.kept z3
  have hw1 := (hv1.kept k03).kept z3
  have hw2 := (hv2.kept k03).kept z3
  have kV := k03.trans0 z3
  clear z3
  obtain ⟨n1, hN1⟩ : ∃ n, lenOf L1 on1 = n := ⟨_, rfl⟩
  obtain ⟨n2, hN2⟩ : ∃ n, lenOf L2 on2 = n := ⟨_, rfl⟩
  rw [hN1] at hs1 gX HV hn1 ⊢
  rw [hN2] at hs2 gY HV hn2 ⊢
  have HN1 := Lib.hid hN1; have HN2 := Lib.hid hN2; clear hN1 hN2
  have A0 : ∀ w', Kept [] V w' → w'.cell? ⟨w.heap.size, 0, none⟩ = some (.int .i64 L1) := fun w' k => (cell_of_heap (k.heap (by simp) fA)).trans rfl
  have A1 : ∀ w', Kept [] V w' → w'.cell? ⟨w.heap.size, 1, none⟩ = some (.slice ad1 on1.length cp1) := fun w' k => (cell_of_heap (k.heap (by simp) fA)).trans rfl
  have B0 : ∀ w', Kept [] V w' → w'.cell? ⟨w.heap.size + 1, 0, none⟩ = some (.int .i64 L2) := fun w' k => (cell_of_heap (k.heap (by simp) fB)).trans rfl
  have B1 : ∀ w', Kept [] V w' → w'.cell? ⟨w.heap.size + 1, 1, none⟩ = some (.slice ad2 on2.length cp2) := fun w' k => (cell_of_heap (k.heap (by simp) fB)).trans rfl
  have X0 : ∀ w', Kept [] V w' → w'.cell? ⟨w3.heap.size, 0, none⟩ = some (.slice (some ⟨x1, 0, none⟩) n1 y1) := fun w' k => (cell_of_heap (k.heap (by simp) gX)).trans rfl
  have X1 : ∀ w', Kept [] V w' → w'.cell? ⟨w3.heap.size, 1, none⟩ = some (.bool true) := fun w' k => (cell_of_heap (k.heap (by simp) gX)).trans rfl
  have Y0 : ∀ w', Kept [] V w' → w'.cell? ⟨w3.heap.size + 1, 0, none⟩ = some (.slice (some ⟨x2, 0, none⟩) n2 y2) := fun w' k => (cell_of_heap (k.heap (by simp) gY)).trans rfl
  have Y1 : ∀ w', Kept [] V w' → w'.cell? ⟨w3.heap.size + 1, 1, none⟩ = some (.bool true) := fun w' k => (cell_of_heap (k.heap (by simp) gY)).trans rfl
  have hnn : n1 = n2 := by have h1 := HN1.out; have h2 := HN2.out; omega
  subst hnn
  have hN1 : lenOf L1 on1 = n1 := HN1.out
  have hN2 : lenOf L2 on2 = n1 := HN2.out
  clear hsame
  have x0 := X0 V (Kept.refl _ _); have y0 := Y0 V (Kept.refl _ _)
  rw [← HV.out] at x0 y0
  obtain ⟨l1, hl1⟩ : ∃ l, onL n1 (fun j => memOf on1 j || memOf on2 j) = l := ⟨_, rfl⟩
  obtain ⟨l3, hl3⟩ : ∃ l, onL n1 (fun j => !memOf on1 j) = l := ⟨_, rfl⟩
  obtain ⟨l4, hl4⟩ : ∃ l, onL n1 (fun j => !memOf on2 j) = l := ⟨_, rfl⟩
  have hL1' : lenOf n1 l1 = n1 := by rw [← hl1]; exact lenOf_onL _ _ _ (Nat.le_refl _)
  have hl1a : l1.length ≤ 1000000 := by rw [← hl1]; have := onL_le n1 (fun j => memOf on1 j || memOf on2 j); omega
  have hl1b : ∀ x ∈ l1, x < 9000 := by rw [← hl1]; intro x hx; have := onL_lt _ _ x hx; omega
  have hL3' : lenOf n1 l3 = n1 := by rw [← hl3]; exact lenOf_onL _ _ _ (Nat.le_refl _)
  have hl3a : l3.length ≤ 1000000 := by rw [← hl3]; have := onL_le n1 (fun j => !memOf on1 j); omega
  have hl3b : ∀ x ∈ l3, x < 9000 := by rw [← hl3]; intro x hx; have := onL_lt _ _ x hx; omega
  have hL4' : lenOf n1 l4 = n1 := by rw [← hl4]; exact lenOf_onL _ _ _ (Nat.le_refl _)
  have hl4a : l4.length ≤ 1000000 := by rw [← hl4]; have := onL_le n1 (fun j => !memOf on2 j); omega
  have hl4b : ∀ x ∈ l4, x < 9000 := by rw [← hl4]; intro x hx; have := onL_lt _ _ x hx; omega
  obtain ⟨l2, hl2⟩ : ∃ l, onL n1 (fun j => !memOf l1 j) = l := ⟨_, rfl⟩
  obtain ⟨l5, hl5⟩ : ∃ l, onL n1 (fun j => memOf l3 j && memOf l4 j) = l := ⟨_, rfl⟩
  have he2 : l2 = onL n1 (fun i => !(decide (i < n1) && memOf on1 i) && !(decide (i < n1) && memOf on2 i)) := by rw [← hl2, ← hl1]; exact dm_left n1 (memOf on1) (memOf on2)
  have he5 : l5 = onL n1 (fun i => !(decide (i < n1) && memOf on1 i) && !(decide (i < n1) && memOf on2 i)) := by rw [← hl5, ← hl3, ← hl4]; exact dm_right n1 (memOf on1) (memOf on2)
  have hc1 : ∀ w', Kept [] V w' → Calls Try.prog 19 #[.agg #[.int .i64 L1, .slice ad1 on1.length cp1], .agg #[.int .i64 L2, .slice ad2 on2.length cp2]] w' fun e w'' => ∃ v', e = .returned (.agg #[.int .i64 (n1 : Nat), v']) ∧ IntsT w'' v' l1 ∧ Kept [] w' w'' := fun w' hS => by
    refine (implUnionT_c L1 L2 _ _ on1 on2 _ (hw1.kept hS) (hw2.kept hS) (by omega) (by omega) (by omega) (by omega) (fun x hx => by have := hon1 x hx; omega) (fun x hx => by have := hon2 x hx; omega)).mono ?_
    rintro e w9 ⟨M9, v9, rfl, hM9, hM9b, hv9, k9⟩
    have e9 : M9 = n1 := by rw [hM9, hN1, hN2]; exact Nat.max_self _
    rw [e9, hl1] at hv9
    exact ⟨v9, by rw [e9], hv9, k9⟩
  have hc2 : ∀ w' u1, IntsT w' u1 l1 → Calls Try.prog 18 #[.agg #[.int .i64 (n1 : Nat), u1]] w' fun e w'' => ∃ v', e = .returned (.agg #[.int .i64 (n1 : Nat), v']) ∧ IntsT w'' v' l2 ∧ Kept [] w' w'' := fun w' u1 h1 => by
    refine (implComplementT_c n1 u1 l1 w' h1.1 (by omega) hl1a hl1b).mono ?_
    rintro e w9 ⟨M9, v9, rfl, hM9, hM9b, hv9, k9⟩
    rw [hL1', hl2] at hv9
    exact ⟨v9, by rw [hM9, hL1'], hv9, k9⟩
  have hc3 : ∀ w', Kept [] V w' → Calls Try.prog 18 #[.agg #[.int .i64 L1, .slice ad1 on1.length cp1]] w' fun e w'' => ∃ v', e = .returned (.agg #[.int .i64 (n1 : Nat), v']) ∧ IntsT w'' v' l3 ∧ Kept [] w' w'' := fun w' hS => by
    refine (implComplementT_c L1 _ on1 _ (hw1.kept hS) (by omega) (by omega) (fun x hx => by have := hon1 x hx; omega)).mono ?_
    rintro e w9 ⟨M9, v9, rfl, hM9, hM9b, hv9, k9⟩
    rw [hN1, hl3] at hv9
    exact ⟨v9, by rw [hM9, hN1], hv9, k9⟩
  have hc4 : ∀ w', Kept [] V w' → Calls Try.prog 18 #[.agg #[.int .i64 L2, .slice ad2 on2.length cp2]] w' fun e w'' => ∃ v', e = .returned (.agg #[.int .i64 (n1 : Nat), v']) ∧ IntsT w'' v' l4 ∧ Kept [] w' w'' := fun w' hS => by
    refine (implComplementT_c L2 _ on2 _ (hw2.kept hS) (by omega) (by omega) (fun x hx => by have := hon2 x hx; omega)).mono ?_
    rintro e w9 ⟨M9, v9, rfl, hM9, hM9b, hv9, k9⟩
    rw [hN2, hl4] at hv9
    exact ⟨v9, by rw [hM9, hN2], hv9, k9⟩
  have hc5 : ∀ w' u3 u4, IntsT w' u3 l3 → IntsT w' u4 l4 → Calls Try.prog 20 #[.agg #[.int .i64 (n1 : Nat), u3], .agg #[.int .i64 (n1 : Nat), u4]] w' fun e w'' => ∃ v', e = .returned (.agg #[.int .i64 (n1 : Nat), v']) ∧ IntsT w'' v' l5 ∧ Kept [] w' w'' := fun w' u3 u4 h3 h4 => by
    refine (implIntersectionT_c n1 n1 u3 u4 l3 l4 w' h3.1 h4.1 (by omega) (by omega) hl3a hl4a hl3b hl4b).mono ?_
    rintro e w9 ⟨M9, v9, rfl, hM9, hM9b, hv9, k9⟩
    have e9 : M9 = n1 := by rw [hM9, hL3', hL4']; exact Nat.min_self _
    rw [e9, hl5] at hv9
    exact ⟨v9, by rw [e9], hv9, k9⟩
  have HC1 := Lib.hid hc1; have HC2 := Lib.hid hc2; have HC3 := Lib.hid hc3; have HC4 := Lib.hid hc4; have HC5 := Lib.hid hc5
  clear hc1 hc2 hc3 hc4 hc5
  have HE2 := Lib.hid he2; have HE5 := Lib.hid he5
  clear hl1 hl2 hl3 hl4 hl5 hL1' hL3' hL4' hl1a hl1b hl3a hl3b hl4a hl4b he2 he5 hN1 hN2
  have hneb : ((n1 : Int) != (n1 : Int)) = false := by simp
  go_wp2_with fail
  rw [HV.out]
  refine wp_region_held_drew (S := fun w' => Kept [] V w') (by kernel_rfl) (Kept.refl _ _).drew (fun hS => ?_)
  refine takeD 0 35 (v := ?_) rfl rfl (by kernel_rfl) (by kernel_rfl) (by kernel_rfl) (fun _ _ _ h => h) (Or.inl ⟨by kernel_rfl, ?_⟩) hS ?_
  rotate_left 1
  · (intro w' hw'; (try dsimp only at hw'); go_simp; try with_reducible rfl)
  simp only [List.setIfInBounds_toArray, List.set_cons_zero, List.set_cons_succ]
  refine takeD 1 36 (v := ?_) rfl rfl (by kernel_rfl) (by kernel_rfl) (by kernel_rfl) (fun _ _ _ h => h) (Or.inl ⟨by kernel_rfl, ?_⟩) hS ?_
  rotate_left 1
  · (intro w' hw'; (try dsimp only at hw'); go_simp; try with_reducible rfl)
  simp only [List.setIfInBounds_toArray, List.set_cons_zero, List.set_cons_succ]
  refine takeD 4 39 (v := ?_) rfl rfl (by kernel_rfl) (by kernel_rfl) (by kernel_rfl) (fun _ _ _ h => h) (Or.inl ⟨by kernel_rfl, ?_⟩) hS ?_
  rotate_left 1
  · (intro w' hw'; (try dsimp only at hw'); go_simp; try with_reducible rfl)
  simp only [List.setIfInBounds_toArray, List.set_cons_zero, List.set_cons_succ]
  refine takeD 6 41 (v := ?_) rfl rfl (by kernel_rfl) (by kernel_rfl) (by kernel_rfl) (fun _ _ _ h => h) (Or.inl ⟨by kernel_rfl, ?_⟩) hS ?_
  rotate_left 1
  · (intro w' hw'; (try dsimp only at hw'); go_simp; try with_reducible rfl)
  simp only [List.setIfInBounds_toArray, List.set_cons_zero, List.set_cons_succ]
  refine wpAnyH_mask (l' := #[true, true, false, false, true, false, true, false, false, false, false, false, false]) (by kernel_rfl) ?_
  refine region_states (fun G hG T hT => ?_)
  have s5AB : ∀ (w' : World) (u1 : Value) (u2 : Value) (u3 : Value) (u4 : Value) (u5 : Value) (pA : Nat) (pB : Nat), Kept [] V w' → IntsT w' u1 (l1) → IntsT w' u2 (l2) → IntsT w' u3 (l3) → IntsT w' u4 (l4) → IntsT w' u5 (l5) → Blk w' pA → V.heap.size ≤ pA → Blk w' pB → V.heap.size ≤ pB → pA ≠ pB → G 2 #[true, true, true, true, true, true, true, true, true, true, true, false, false] (((((((T.setIfInBounds 37 (.agg #[.int .i64 (n1 : Nat), u1])).setIfInBounds 38 (.agg #[.int .i64 (n1 : Nat), u2])).setIfInBounds 40 (.agg #[.int .i64 (n1 : Nat), u3])).setIfInBounds 42 (.agg #[.int .i64 (n1 : Nat), u4])).setIfInBounds 43 (.agg #[.int .i64 (n1 : Nat), u5])).setIfInBounds 8 (.pointer (some ⟨pA, 0, none⟩))).setIfInBounds 9 (.pointer (some ⟨pB, 0, none⟩))) w' := by
    intro w' u1 u2 u3 u4 u5 pA pB hS h1 h2 h3 h4 h5 hbA hlA hbB hlB hne
    subst hG
    subst hT
    (try simp only [List.setIfInBounds_toArray, List.set_cons_zero, List.set_cons_succ])
    obtain ⟨ad2_, cp2_, e2⟩ := h2.shape
    subst e2
    obtain ⟨ln2, hln2⟩ : ∃ ln, l2.length = ln := ⟨_, rfl⟩
    rw [hln2] at h2 ⊢
    have HLN2 := Lib.hid hln2; clear hln2
    obtain ⟨ad5, cp5, e5⟩ := h5.shape
    subst e5
    obtain ⟨ln5, hln5⟩ : ∃ ln, l5.length = ln := ⟨_, rfl⟩
    rw [hln5] at h5 ⊢
    have HLN5 := Lib.hid hln5; clear hln5
    obtain ⟨c0, c1, z0, z1, e0, e1⟩ := box2 hbA (.int .i64 (n1 : Nat)) (.slice ad2_ ln2 cp2_)
    refine wpAnyH_ready (rs := [11]) (by kernel_rfl) (by simp) ?_
    refine AllReadyH.cons rfl (fun K hK => ?_) AllReadyH.nil
    go_simp
    refine hK.out _ _ ?_ (fun hS1 => ?_)
    · exact (hS.setCell (by right; exact hlA) _).setCell (by right; exact hlA) _
    clear hK K c0 c1 z0 z1 e0 e1
    (try simp only [Act.put, List.setIfInBounds_toArray, List.set_cons_zero, List.set_cons_succ])
    have gA1 := setCell_heap_same (o := 1) (setCell_heap_same (o := 0) hbA (.int .i64 (n1 : Nat))) (.slice ad2_ ln2 cp2_)
    have gB1 := setCell_heap_other (o := 1) (setCell_heap_other (o := 0) hbB (Ne.symm hne) (.int .i64 (n1 : Nat))) (Ne.symm hne) (.slice ad2_ ln2 cp2_)
    have h2 := (h2.other (o := 0) hbA (.int .i64 (n1 : Nat))).other (o := 1) (setCell_heap_same (o := 0) hbA (.int .i64 (n1 : Nat))) (.slice ad2_ ln2 cp2_)
    have h5 := (h5.other (o := 0) hbA (.int .i64 (n1 : Nat))).other (o := 1) (setCell_heap_same (o := 0) hbA (.int .i64 (n1 : Nat))) (.slice ad2_ ln2 cp2_)
    clear hbA hbB
    generalize ((w'.setCell ⟨pA, 0, none⟩ (.int .i64 (n1 : Nat))).setCell ⟨pA, 1, none⟩ (.slice ad2_ ln2 cp2_)) = w1 at *
    obtain ⟨c0, c1, z0, z1, e0, e1⟩ := box2 gB1 (.int .i64 (n1 : Nat)) (.slice ad5 ln5 cp5)
    refine wpAnyH_ready (rs := [12]) (by kernel_rfl) (by simp) ?_
    refine AllReadyH.cons rfl (fun K hK => ?_) AllReadyH.nil
    go_simp
    refine hK.out _ _ ?_ (fun hS2 => ?_)
    · exact (hS1.setCell (by right; exact hlB) _).setCell (by right; exact hlB) _
    clear hK K c0 c1 z0 z1 e0 e1
    (try simp only [Act.put, List.setIfInBounds_toArray, List.set_cons_zero, List.set_cons_succ])
    have gB2 := setCell_heap_same (o := 1) (setCell_heap_same (o := 0) gB1 (.int .i64 (n1 : Nat))) (.slice ad5 ln5 cp5)
    have gA2 := setCell_heap_other (o := 1) (setCell_heap_other (o := 0) gA1 hne (.int .i64 (n1 : Nat))) hne (.slice ad5 ln5 cp5)
    have h2 := (h2.other (o := 0) gB1 (.int .i64 (n1 : Nat))).other (o := 1) (setCell_heap_same (o := 0) gB1 (.int .i64 (n1 : Nat))) (.slice ad5 ln5 cp5)
    have h5 := (h5.other (o := 0) gB1 (.int .i64 (n1 : Nat))).other (o := 1) (setCell_heap_same (o := 0) gB1 (.int .i64 (n1 : Nat))) (.slice ad5 ln5 cp5)
    clear gA1 gB1
    generalize ((w1.setCell ⟨pB, 0, none⟩ (.int .i64 (n1 : Nat))).setCell ⟨pB, 1, none⟩ (.slice ad5 ln5 cp5)) = U at *
    refine wpAnyH_done (by kernel_rfl) ?_ _
    have x0' := X0 _ hS2
    rw [HE2.out] at h2
    rw [HE5.out] at h5
    go_wp2_with fail
    refine (from_c n1 _ rfl 22 #[] #[.pointer (some ⟨w3.heap.size, 0, none⟩), .pointer (some ⟨w3.heap.size + 1, 0, none⟩)] (fun i => !(decide (i < n1) && memOf on1 i) && !(decide (i < n1) && memOf on2 i)) _ (by omega) (fun args w => by kernel_rfl) (fun i w' _ q => fnDeMorgan_cl _ _ x1 n1 y1 x2 n1 y2 i (memOf on1) (memOf on2) w' ((hS2.trans0 q).heap (by simp) gX) ((hS2.trans0 q).heap (by simp) gY) (hs1.kept (hS2.trans0 q)) (hs2.kept (hS2.trans0 q)))).mono ?_
    rintro e w5 ⟨b5, rfl, r5, _, k5⟩
    have z5 : Kept [] w5 (w5.alloc (.cells #[.slice (some ⟨b5, 0, none⟩) n1 n1, .bool true] 28)) := (Kept.refl _ _).alloc _
    have gS := heap_alloc_new w5 (.cells #[.slice (some ⟨b5, 0, none⟩) n1 n1, .bool true] 28)
    have hs5 : SpecSet (w5.alloc (.cells #[.slice (some ⟨b5, 0, none⟩) n1 n1, .bool true] 28)) (.agg #[.slice (some ⟨b5, 0, none⟩) n1 n1, .bool true]) n1 (fun i => !(decide (i < n1) && memOf on1 i) && !(decide (i < n1) && memOf on2 i)) true := ⟨b5, _, rfl, r5.alloc _⟩
    have k55 := k5.trans0 z5
    have gA := k55.heap (by simp) gA2
    have gB := k55.heap (by simp) gB2
    have kU := kV.trans0 (hS2.trans0 k55)
    have a0 : (w5.alloc (.cells #[.slice (some ⟨b5, 0, none⟩) n1 n1, .bool true] 28)).cell? ⟨pA, 0, none⟩ = some (.int .i64 (n1 : Nat)) := (cell_of_heap gA).trans rfl
    have a1 : (w5.alloc (.cells #[.slice (some ⟨b5, 0, none⟩) n1 n1, .bool true] 28)).cell? ⟨pA, 1, none⟩ = some (.slice ad2_ ln2 cp2_) := (cell_of_heap gA).trans rfl
    go_wp2_with fail
    refine (alike_c n1 _ _ n1 (fun i => !(decide (i < n1) && memOf on1 i) && !(decide (i < n1) && memOf on2 i)) true _ (h2.kept k55).1 hs5 (by omega)).mono ?_
    rintro e w7 ⟨rfl, k7⟩
    have gS7 := k7.heap (by simp) gS
    have gB7 := k7.heap (by simp) gB
    have b0 : w7.cell? ⟨pB, 0, none⟩ = some (.int .i64 (n1 : Nat)) := (cell_of_heap gB7).trans rfl
    have b1 : w7.cell? ⟨pB, 1, none⟩ = some (.slice ad5 ln5 cp5) := (cell_of_heap gB7).trans rfl
    have s0 : w7.cell? ⟨w5.heap.size, 0, none⟩ = some (.slice (some ⟨b5, 0, none⟩) n1 n1) := (cell_of_heap gS7).trans rfl
    have s1 : w7.cell? ⟨w5.heap.size, 1, none⟩ = some (.bool true) := (cell_of_heap gS7).trans rfl
    go_wp2_with fail
    refine (alike_c n1 _ _ n1 (fun i => !(decide (i < n1) && memOf on1 i) && !(decide (i < n1) && memOf on2 i)) true _ ((h5.kept k55).kept k7).1 (hs5.kept k7) (by omega)).mono ?_
    rintro e w8 ⟨rfl, k8⟩
    go_wp2_with fail
    go_ret
    exact ⟨rfl, (kU.trans0 k7).trans0 k8⟩
  have s4AB : ∀ (w' : World) (u1 : Value) (u2 : Value) (u3 : Value) (u4 : Value) (pA : Nat) (pB : Nat), Kept [] V w' → IntsT w' u1 (l1) → IntsT w' u2 (l2) → IntsT w' u3 (l3) → IntsT w' u4 (l4) → Blk w' pA → V.heap.size ≤ pA → Blk w' pB → V.heap.size ≤ pB → pA ≠ pB → G 3 #[true, true, true, true, true, true, true, true, false, true, true, false, false] ((((((T.setIfInBounds 37 (.agg #[.int .i64 (n1 : Nat), u1])).setIfInBounds 38 (.agg #[.int .i64 (n1 : Nat), u2])).setIfInBounds 40 (.agg #[.int .i64 (n1 : Nat), u3])).setIfInBounds 42 (.agg #[.int .i64 (n1 : Nat), u4])).setIfInBounds 8 (.pointer (some ⟨pA, 0, none⟩))).setIfInBounds 9 (.pointer (some ⟨pB, 0, none⟩))) w' := by
    intro w' u1 u2 u3 u4 pA pB hS h1 h2 h3 h4 hbA hlA hbB hlB hne
    subst hG
    subst hT
    (try simp only [List.setIfInBounds_toArray, List.set_cons_zero, List.set_cons_succ])
    refine wpAnyH_ready (rs := [8]) (by kernel_rfl) (by simp) ?_
    refine AllReadyH.cons rfl (fun K hK => ?_) ?_
    · go_simp
      refine (HC5.out _ u3 u4 h3 h4).mono ?_
      rintro e w9 ⟨v9, rfl, hv9, k9⟩
      refine hK.out _ _ ?_ (fun hS1 => ?_)
      · exact hS.trans0 k9
      clear hK K
      (try simp only [Act.put, List.setIfInBounds_toArray, List.set_cons_zero, List.set_cons_succ])
      refine wpAnyH_mask (l' := #[true, true, true, true, true, true, true, true, true, true, true, false, false]) (by kernel_rfl) ?_
      have hg := s5AB w9 u1 u2 u3 u4 v9 pA pB hS1 (h1.kept k9) (h2.kept k9) (h3.kept k9) (h4.kept k9) hv9 (hbA.kept k9) hlA (hbB.kept k9) hlB hne
      (try simp only [List.setIfInBounds_toArray, List.set_cons_zero, List.set_cons_succ] at hg)
      exact hg
    exact AllReadyH.nil
  have s5A : ∀ (w' : World) (u1 : Value) (u2 : Value) (u3 : Value) (u4 : Value) (u5 : Value) (pA : Nat), Kept [] V w' → IntsT w' u1 (l1) → IntsT w' u2 (l2) → IntsT w' u3 (l3) → IntsT w' u4 (l4) → IntsT w' u5 (l5) → Blk w' pA → V.heap.size ≤ pA → G 3 #[true, true, true, true, true, true, true, true, true, true, false, false, false] ((((((T.setIfInBounds 37 (.agg #[.int .i64 (n1 : Nat), u1])).setIfInBounds 38 (.agg #[.int .i64 (n1 : Nat), u2])).setIfInBounds 40 (.agg #[.int .i64 (n1 : Nat), u3])).setIfInBounds 42 (.agg #[.int .i64 (n1 : Nat), u4])).setIfInBounds 43 (.agg #[.int .i64 (n1 : Nat), u5])).setIfInBounds 8 (.pointer (some ⟨pA, 0, none⟩))) w' := by
    intro w' u1 u2 u3 u4 u5 pA hS h1 h2 h3 h4 h5 hbA hlA
    subst hG
    subst hT
    (try simp only [List.setIfInBounds_toArray, List.set_cons_zero, List.set_cons_succ])
    refine wpAnyH_ready (rs := [10]) (by kernel_rfl) (by simp) ?_
    refine AllReadyH.cons rfl (fun K hK => ?_) ?_
    · have kn : Kept [] w' (w'.alloc (.cells #[.int .i64 0, .slice none 0 0] 24)) := (Kept.refl _ _).alloc _
      have hn : Blk (w'.alloc (.cells #[.int .i64 0, .slice none 0 0] 24)) w'.heap.size := heap_alloc_new w' _
      have hln : V.heap.size ≤ w'.heap.size := hS.size
      have hltn := lt_of_heap hbA
      go_simp
      refine hK.out _ _ ?_ (fun hS1 => ?_)
      · exact hS.trans0 kn
      clear hK K
      (try simp only [Act.put, List.setIfInBounds_toArray, List.set_cons_zero, List.set_cons_succ])
      refine wpAnyH_mask (l' := #[true, true, true, true, true, true, true, true, true, true, true, false, false]) (by kernel_rfl) ?_
      have hg := s5AB _ u1 u2 u3 u4 u5 pA w'.heap.size hS1 (h1.kept kn) (h2.kept kn) (h3.kept kn) (h4.kept kn) (h5.kept kn) (hbA.kept kn) hlA hn hln (by omega)
      (try simp only [List.setIfInBounds_toArray, List.set_cons_zero, List.set_cons_succ] at hg)
      exact hg
    exact AllReadyH.nil
  have s5B : ∀ (w' : World) (u1 : Value) (u2 : Value) (u3 : Value) (u4 : Value) (u5 : Value) (pB : Nat), Kept [] V w' → IntsT w' u1 (l1) → IntsT w' u2 (l2) → IntsT w' u3 (l3) → IntsT w' u4 (l4) → IntsT w' u5 (l5) → Blk w' pB → V.heap.size ≤ pB → G 3 #[true, true, true, true, true, true, true, true, true, false, true, false, false] ((((((T.setIfInBounds 37 (.agg #[.int .i64 (n1 : Nat), u1])).setIfInBounds 38 (.agg #[.int .i64 (n1 : Nat), u2])).setIfInBounds 40 (.agg #[.int .i64 (n1 : Nat), u3])).setIfInBounds 42 (.agg #[.int .i64 (n1 : Nat), u4])).setIfInBounds 43 (.agg #[.int .i64 (n1 : Nat), u5])).setIfInBounds 9 (.pointer (some ⟨pB, 0, none⟩))) w' := by
    intro w' u1 u2 u3 u4 u5 pB hS h1 h2 h3 h4 h5 hbB hlB
    subst hG
    subst hT
    (try simp only [List.setIfInBounds_toArray, List.set_cons_zero, List.set_cons_succ])
    refine wpAnyH_ready (rs := [9]) (by kernel_rfl) (by simp) ?_
    refine AllReadyH.cons rfl (fun K hK => ?_) ?_
    · have kn : Kept [] w' (w'.alloc (.cells #[.int .i64 0, .slice none 0 0] 24)) := (Kept.refl _ _).alloc _
      have hn : Blk (w'.alloc (.cells #[.int .i64 0, .slice none 0 0] 24)) w'.heap.size := heap_alloc_new w' _
      have hln : V.heap.size ≤ w'.heap.size := hS.size
      have hltn := lt_of_heap hbB
      go_simp
      refine hK.out _ _ ?_ (fun hS1 => ?_)
      · exact hS.trans0 kn
      clear hK K
      (try simp only [Act.put, List.setIfInBounds_toArray, List.set_cons_zero, List.set_cons_succ])
      refine wpAnyH_mask (l' := #[true, true, true, true, true, true, true, true, true, true, true, false, false]) (by kernel_rfl) ?_
      have hg := s5AB _ u1 u2 u3 u4 u5 w'.heap.size pB hS1 (h1.kept kn) (h2.kept kn) (h3.kept kn) (h4.kept kn) (h5.kept kn) hn hln (hbB.kept kn) hlB (by omega)
      (try simp only [List.setIfInBounds_toArray, List.set_cons_zero, List.set_cons_succ] at hg)
      exact hg
    exact AllReadyH.nil
  have s3AB : ∀ (w' : World) (u1 : Value) (u2 : Value) (u3 : Value) (pA : Nat) (pB : Nat), Kept [] V w' → IntsT w' u1 (l1) → IntsT w' u2 (l2) → IntsT w' u3 (l3) → Blk w' pA → V.heap.size ≤ pA → Blk w' pB → V.heap.size ≤ pB → pA ≠ pB → G 4 #[true, true, true, true, true, true, true, false, false, true, true, false, false] (((((T.setIfInBounds 37 (.agg #[.int .i64 (n1 : Nat), u1])).setIfInBounds 38 (.agg #[.int .i64 (n1 : Nat), u2])).setIfInBounds 40 (.agg #[.int .i64 (n1 : Nat), u3])).setIfInBounds 8 (.pointer (some ⟨pA, 0, none⟩))).setIfInBounds 9 (.pointer (some ⟨pB, 0, none⟩))) w' := by
    intro w' u1 u2 u3 pA pB hS h1 h2 h3 hbA hlA hbB hlB hne
    subst hG
    subst hT
    (try simp only [List.setIfInBounds_toArray, List.set_cons_zero, List.set_cons_succ])
    refine wpAnyH_ready (rs := [7]) (by kernel_rfl) (by simp) ?_
    refine AllReadyH.cons rfl (fun K hK => ?_) ?_
    · go_simp
      refine (HC4.out _ hS).mono ?_
      rintro e w9 ⟨v9, rfl, hv9, k9⟩
      refine hK.out _ _ ?_ (fun hS1 => ?_)
      · exact hS.trans0 k9
      clear hK K
      (try simp only [Act.put, List.setIfInBounds_toArray, List.set_cons_zero, List.set_cons_succ])
      refine wpAnyH_mask (l' := #[true, true, true, true, true, true, true, true, false, true, true, false, false]) (by kernel_rfl) ?_
      have hg := s4AB w9 u1 u2 u3 v9 pA pB hS1 (h1.kept k9) (h2.kept k9) (h3.kept k9) hv9 (hbA.kept k9) hlA (hbB.kept k9) hlB hne
      (try simp only [List.setIfInBounds_toArray, List.set_cons_zero, List.set_cons_succ] at hg)
      exact hg
    exact AllReadyH.nil
  have s4A : ∀ (w' : World) (u1 : Value) (u2 : Value) (u3 : Value) (u4 : Value) (pA : Nat), Kept [] V w' → IntsT w' u1 (l1) → IntsT w' u2 (l2) → IntsT w' u3 (l3) → IntsT w' u4 (l4) → Blk w' pA → V.heap.size ≤ pA → G 4 #[true, true, true, true, true, true, true, true, false, true, false, false, false] (((((T.setIfInBounds 37 (.agg #[.int .i64 (n1 : Nat), u1])).setIfInBounds 38 (.agg #[.int .i64 (n1 : Nat), u2])).setIfInBounds 40 (.agg #[.int .i64 (n1 : Nat), u3])).setIfInBounds 42 (.agg #[.int .i64 (n1 : Nat), u4])).setIfInBounds 8 (.pointer (some ⟨pA, 0, none⟩))) w' := by
    intro w' u1 u2 u3 u4 pA hS h1 h2 h3 h4 hbA hlA
    subst hG
    subst hT
    (try simp only [List.setIfInBounds_toArray, List.set_cons_zero, List.set_cons_succ])
    refine wpAnyH_ready (rs := [8, 10]) (by kernel_rfl) (by simp) ?_
    refine AllReadyH.cons rfl (fun K hK => ?_) ?_
    · go_simp
      refine (HC5.out _ u3 u4 h3 h4).mono ?_
      rintro e w9 ⟨v9, rfl, hv9, k9⟩
      refine hK.out _ _ ?_ (fun hS1 => ?_)
      · exact hS.trans0 k9
      clear hK K
      (try simp only [Act.put, List.setIfInBounds_toArray, List.set_cons_zero, List.set_cons_succ])
      refine wpAnyH_mask (l' := #[true, true, true, true, true, true, true, true, true, true, false, false, false]) (by kernel_rfl) ?_
      have hg := s5A w9 u1 u2 u3 u4 v9 pA hS1 (h1.kept k9) (h2.kept k9) (h3.kept k9) (h4.kept k9) hv9 (hbA.kept k9) hlA
      (try simp only [List.setIfInBounds_toArray, List.set_cons_zero, List.set_cons_succ] at hg)
      exact hg
    refine AllReadyH.cons rfl (fun K hK => ?_) ?_
    · have kn : Kept [] w' (w'.alloc (.cells #[.int .i64 0, .slice none 0 0] 24)) := (Kept.refl _ _).alloc _
      have hn : Blk (w'.alloc (.cells #[.int .i64 0, .slice none 0 0] 24)) w'.heap.size := heap_alloc_new w' _
      have hln : V.heap.size ≤ w'.heap.size := hS.size
      have hltn := lt_of_heap hbA
      go_simp
      refine hK.out _ _ ?_ (fun hS1 => ?_)
      · exact hS.trans0 kn
      clear hK K
      (try simp only [Act.put, List.setIfInBounds_toArray, List.set_cons_zero, List.set_cons_succ])
      refine wpAnyH_mask (l' := #[true, true, true, true, true, true, true, true, false, true, true, false, false]) (by kernel_rfl) ?_
      have hg := s4AB _ u1 u2 u3 u4 pA w'.heap.size hS1 (h1.kept kn) (h2.kept kn) (h3.kept kn) (h4.kept kn) (hbA.kept kn) hlA hn hln (by omega)
      (try simp only [List.setIfInBounds_toArray, List.set_cons_zero, List.set_cons_succ] at hg)
      exact hg
    exact AllReadyH.nil
  have s4B : ∀ (w' : World) (u1 : Value) (u2 : Value) (u3 : Value) (u4 : Value) (pB : Nat), Kept [] V w' → IntsT w' u1 (l1) → IntsT w' u2 (l2) → IntsT w' u3 (l3) → IntsT w' u4 (l4) → Blk w' pB → V.heap.size ≤ pB → G 4 #[true, true, true, true, true, true, true, true, false, false, true, false, false] (((((T.setIfInBounds 37 (.agg #[.int .i64 (n1 : Nat), u1])).setIfInBounds 38 (.agg #[.int .i64 (n1 : Nat), u2])).setIfInBounds 40 (.agg #[.int .i64 (n1 : Nat), u3])).setIfInBounds 42 (.agg #[.int .i64 (n1 : Nat), u4])).setIfInBounds 9 (.pointer (some ⟨pB, 0, none⟩))) w' := by
    intro w' u1 u2 u3 u4 pB hS h1 h2 h3 h4 hbB hlB
    subst hG
    subst hT
    (try simp only [List.setIfInBounds_toArray, List.set_cons_zero, List.set_cons_succ])
    refine wpAnyH_ready (rs := [8, 9]) (by kernel_rfl) (by simp) ?_
    refine AllReadyH.cons rfl (fun K hK => ?_) ?_
    · go_simp
      refine (HC5.out _ u3 u4 h3 h4).mono ?_
      rintro e w9 ⟨v9, rfl, hv9, k9⟩
      refine hK.out _ _ ?_ (fun hS1 => ?_)
      · exact hS.trans0 k9
      clear hK K
      (try simp only [Act.put, List.setIfInBounds_toArray, List.set_cons_zero, List.set_cons_succ])
      refine wpAnyH_mask (l' := #[true, true, true, true, true, true, true, true, true, false, true, false, false]) (by kernel_rfl) ?_
      have hg := s5B w9 u1 u2 u3 u4 v9 pB hS1 (h1.kept k9) (h2.kept k9) (h3.kept k9) (h4.kept k9) hv9 (hbB.kept k9) hlB
      (try simp only [List.setIfInBounds_toArray, List.set_cons_zero, List.set_cons_succ] at hg)
      exact hg
    refine AllReadyH.cons rfl (fun K hK => ?_) ?_
    · have kn : Kept [] w' (w'.alloc (.cells #[.int .i64 0, .slice none 0 0] 24)) := (Kept.refl _ _).alloc _
      have hn : Blk (w'.alloc (.cells #[.int .i64 0, .slice none 0 0] 24)) w'.heap.size := heap_alloc_new w' _
      have hln : V.heap.size ≤ w'.heap.size := hS.size
      have hltn := lt_of_heap hbB
      go_simp
      refine hK.out _ _ ?_ (fun hS1 => ?_)
      · exact hS.trans0 kn
      clear hK K
      (try simp only [Act.put, List.setIfInBounds_toArray, List.set_cons_zero, List.set_cons_succ])
      refine wpAnyH_mask (l' := #[true, true, true, true, true, true, true, true, false, true, true, false, false]) (by kernel_rfl) ?_
      have hg := s4AB _ u1 u2 u3 u4 w'.heap.size pB hS1 (h1.kept kn) (h2.kept kn) (h3.kept kn) (h4.kept kn) hn hln (hbB.kept kn) hlB (by omega)
      (try simp only [List.setIfInBounds_toArray, List.set_cons_zero, List.set_cons_succ] at hg)
      exact hg
    exact AllReadyH.nil
  have s5 : ∀ (w' : World) (u1 : Value) (u2 : Value) (u3 : Value) (u4 : Value) (u5 : Value), Kept [] V w' → IntsT w' u1 (l1) → IntsT w' u2 (l2) → IntsT w' u3 (l3) → IntsT w' u4 (l4) → IntsT w' u5 (l5) → G 4 #[true, true, true, true, true, true, true, true, true, false, false, false, false] (((((T.setIfInBounds 37 (.agg #[.int .i64 (n1 : Nat), u1])).setIfInBounds 38 (.agg #[.int .i64 (n1 : Nat), u2])).setIfInBounds 40 (.agg #[.int .i64 (n1 : Nat), u3])).setIfInBounds 42 (.agg #[.int .i64 (n1 : Nat), u4])).setIfInBounds 43 (.agg #[.int .i64 (n1 : Nat), u5])) w' := by
    intro w' u1 u2 u3 u4 u5 hS h1 h2 h3 h4 h5
    subst hG
    subst hT
    (try simp only [List.setIfInBounds_toArray, List.set_cons_zero, List.set_cons_succ])
    refine wpAnyH_ready (rs := [9, 10]) (by kernel_rfl) (by simp) ?_
    refine AllReadyH.cons rfl (fun K hK => ?_) ?_
    · have kn : Kept [] w' (w'.alloc (.cells #[.int .i64 0, .slice none 0 0] 24)) := (Kept.refl _ _).alloc _
      have hn : Blk (w'.alloc (.cells #[.int .i64 0, .slice none 0 0] 24)) w'.heap.size := heap_alloc_new w' _
      have hln : V.heap.size ≤ w'.heap.size := hS.size
      go_simp
      refine hK.out _ _ ?_ (fun hS1 => ?_)
      · exact hS.trans0 kn
      clear hK K
      (try simp only [Act.put, List.setIfInBounds_toArray, List.set_cons_zero, List.set_cons_succ])
      refine wpAnyH_mask (l' := #[true, true, true, true, true, true, true, true, true, true, false, false, false]) (by kernel_rfl) ?_
      have hg := s5A _ u1 u2 u3 u4 u5 w'.heap.size hS1 (h1.kept kn) (h2.kept kn) (h3.kept kn) (h4.kept kn) (h5.kept kn) hn hln
      (try simp only [List.setIfInBounds_toArray, List.set_cons_zero, List.set_cons_succ] at hg)
      exact hg
    refine AllReadyH.cons rfl (fun K hK => ?_) ?_
    · have kn : Kept [] w' (w'.alloc (.cells #[.int .i64 0, .slice none 0 0] 24)) := (Kept.refl _ _).alloc _
      have hn : Blk (w'.alloc (.cells #[.int .i64 0, .slice none 0 0] 24)) w'.heap.size := heap_alloc_new w' _
      have hln : V.heap.size ≤ w'.heap.size := hS.size
      go_simp
      refine hK.out _ _ ?_ (fun hS1 => ?_)
      · exact hS.trans0 kn
      clear hK K
      (try simp only [Act.put, List.setIfInBounds_toArray, List.set_cons_zero, List.set_cons_succ])
      refine wpAnyH_mask (l' := #[true, true, true, true, true, true, true, true, true, false, true, false, false]) (by kernel_rfl) ?_
      have hg := s5B _ u1 u2 u3 u4 u5 w'.heap.size hS1 (h1.kept kn) (h2.kept kn) (h3.kept kn) (h4.kept kn) (h5.kept kn) hn hln
      (try simp only [List.setIfInBounds_toArray, List.set_cons_zero, List.set_cons_succ] at hg)
      exact hg
    exact AllReadyH.nil
  have s2AB : ∀ (w' : World) (u1 : Value) (u2 : Value) (pA : Nat) (pB : Nat), Kept [] V w' → IntsT w' u1 (l1) → IntsT w' u2 (l2) → Blk w' pA → V.heap.size ≤ pA → Blk w' pB → V.heap.size ≤ pB → pA ≠ pB → G 5 #[true, true, true, true, true, false, true, false, false, true, true, false, false] ((((T.setIfInBounds 37 (.agg #[.int .i64 (n1 : Nat), u1])).setIfInBounds 38 (.agg #[.int .i64 (n1 : Nat), u2])).setIfInBounds 8 (.pointer (some ⟨pA, 0, none⟩))).setIfInBounds 9 (.pointer (some ⟨pB, 0, none⟩))) w' := by
    intro w' u1 u2 pA pB hS h1 h2 hbA hlA hbB hlB hne
    subst hG
    subst hT
    (try simp only [List.setIfInBounds_toArray, List.set_cons_zero, List.set_cons_succ])
    refine wpAnyH_ready (rs := [5]) (by kernel_rfl) (by simp) ?_
    refine AllReadyH.cons rfl (fun K hK => ?_) ?_
    · go_simp
      refine (HC3.out _ hS).mono ?_
      rintro e w9 ⟨v9, rfl, hv9, k9⟩
      refine hK.out _ _ ?_ (fun hS1 => ?_)
      · exact hS.trans0 k9
      clear hK K
      (try simp only [Act.put, List.setIfInBounds_toArray, List.set_cons_zero, List.set_cons_succ])
      refine wpAnyH_mask (l' := #[true, true, true, true, true, true, true, false, false, true, true, false, false]) (by kernel_rfl) ?_
      have hg := s3AB w9 u1 u2 v9 pA pB hS1 (h1.kept k9) (h2.kept k9) hv9 (hbA.kept k9) hlA (hbB.kept k9) hlB hne
      (try simp only [List.setIfInBounds_toArray, List.set_cons_zero, List.set_cons_succ] at hg)
      exact hg
    exact AllReadyH.nil
  have s3A : ∀ (w' : World) (u1 : Value) (u2 : Value) (u3 : Value) (pA : Nat), Kept [] V w' → IntsT w' u1 (l1) → IntsT w' u2 (l2) → IntsT w' u3 (l3) → Blk w' pA → V.heap.size ≤ pA → G 5 #[true, true, true, true, true, true, true, false, false, true, false, false, false] ((((T.setIfInBounds 37 (.agg #[.int .i64 (n1 : Nat), u1])).setIfInBounds 38 (.agg #[.int .i64 (n1 : Nat), u2])).setIfInBounds 40 (.agg #[.int .i64 (n1 : Nat), u3])).setIfInBounds 8 (.pointer (some ⟨pA, 0, none⟩))) w' := by
    intro w' u1 u2 u3 pA hS h1 h2 h3 hbA hlA
    subst hG
    subst hT
    (try simp only [List.setIfInBounds_toArray, List.set_cons_zero, List.set_cons_succ])
    refine wpAnyH_ready (rs := [7, 10]) (by kernel_rfl) (by simp) ?_
    refine AllReadyH.cons rfl (fun K hK => ?_) ?_
    · go_simp
      refine (HC4.out _ hS).mono ?_
      rintro e w9 ⟨v9, rfl, hv9, k9⟩
      refine hK.out _ _ ?_ (fun hS1 => ?_)
      · exact hS.trans0 k9
      clear hK K
      (try simp only [Act.put, List.setIfInBounds_toArray, List.set_cons_zero, List.set_cons_succ])
      refine wpAnyH_mask (l' := #[true, true, true, true, true, true, true, true, false, true, false, false, false]) (by kernel_rfl) ?_
      have hg := s4A w9 u1 u2 u3 v9 pA hS1 (h1.kept k9) (h2.kept k9) (h3.kept k9) hv9 (hbA.kept k9) hlA
      (try simp only [List.setIfInBounds_toArray, List.set_cons_zero, List.set_cons_succ] at hg)
      exact hg
    refine AllReadyH.cons rfl (fun K hK => ?_) ?_
    · have kn : Kept [] w' (w'.alloc (.cells #[.int .i64 0, .slice none 0 0] 24)) := (Kept.refl _ _).alloc _
      have hn : Blk (w'.alloc (.cells #[.int .i64 0, .slice none 0 0] 24)) w'.heap.size := heap_alloc_new w' _
      have hln : V.heap.size ≤ w'.heap.size := hS.size
      have hltn := lt_of_heap hbA
      go_simp
      refine hK.out _ _ ?_ (fun hS1 => ?_)
      · exact hS.trans0 kn
      clear hK K
      (try simp only [Act.put, List.setIfInBounds_toArray, List.set_cons_zero, List.set_cons_succ])
      refine wpAnyH_mask (l' := #[true, true, true, true, true, true, true, false, false, true, true, false, false]) (by kernel_rfl) ?_
      have hg := s3AB _ u1 u2 u3 pA w'.heap.size hS1 (h1.kept kn) (h2.kept kn) (h3.kept kn) (hbA.kept kn) hlA hn hln (by omega)
      (try simp only [List.setIfInBounds_toArray, List.set_cons_zero, List.set_cons_succ] at hg)
      exact hg
    exact AllReadyH.nil
  have s3B : ∀ (w' : World) (u1 : Value) (u2 : Value) (u3 : Value) (pB : Nat), Kept [] V w' → IntsT w' u1 (l1) → IntsT w' u2 (l2) → IntsT w' u3 (l3) → Blk w' pB → V.heap.size ≤ pB → G 5 #[true, true, true, true, true, true, true, false, false, false, true, false, false] ((((T.setIfInBounds 37 (.agg #[.int .i64 (n1 : Nat), u1])).setIfInBounds 38 (.agg #[.int .i64 (n1 : Nat), u2])).setIfInBounds 40 (.agg #[.int .i64 (n1 : Nat), u3])).setIfInBounds 9 (.pointer (some ⟨pB, 0, none⟩))) w' := by
    intro w' u1 u2 u3 pB hS h1 h2 h3 hbB hlB
    subst hG
    subst hT
    (try simp only [List.setIfInBounds_toArray, List.set_cons_zero, List.set_cons_succ])
    refine wpAnyH_ready (rs := [7, 9]) (by kernel_rfl) (by simp) ?_
    refine AllReadyH.cons rfl (fun K hK => ?_) ?_
    · go_simp
      refine (HC4.out _ hS).mono ?_
      rintro e w9 ⟨v9, rfl, hv9, k9⟩
      refine hK.out _ _ ?_ (fun hS1 => ?_)
      · exact hS.trans0 k9
      clear hK K
      (try simp only [Act.put, List.setIfInBounds_toArray, List.set_cons_zero, List.set_cons_succ])
      refine wpAnyH_mask (l' := #[true, true, true, true, true, true, true, true, false, false, true, false, false]) (by kernel_rfl) ?_
      have hg := s4B w9 u1 u2 u3 v9 pB hS1 (h1.kept k9) (h2.kept k9) (h3.kept k9) hv9 (hbB.kept k9) hlB
      (try simp only [List.setIfInBounds_toArray, List.set_cons_zero, List.set_cons_succ] at hg)
      exact hg
    refine AllReadyH.cons rfl (fun K hK => ?_) ?_
    · have kn : Kept [] w' (w'.alloc (.cells #[.int .i64 0, .slice none 0 0] 24)) := (Kept.refl _ _).alloc _
      have hn : Blk (w'.alloc (.cells #[.int .i64 0, .slice none 0 0] 24)) w'.heap.size := heap_alloc_new w' _
      have hln : V.heap.size ≤ w'.heap.size := hS.size
      have hltn := lt_of_heap hbB
      go_simp
      refine hK.out _ _ ?_ (fun hS1 => ?_)
      · exact hS.trans0 kn
      clear hK K
      (try simp only [Act.put, List.setIfInBounds_toArray, List.set_cons_zero, List.set_cons_succ])
      refine wpAnyH_mask (l' := #[true, true, true, true, true, true, true, false, false, true, true, false, false]) (by kernel_rfl) ?_
      have hg := s3AB _ u1 u2 u3 w'.heap.size pB hS1 (h1.kept kn) (h2.kept kn) (h3.kept kn) hn hln (hbB.kept kn) hlB (by omega)
      (try simp only [List.setIfInBounds_toArray, List.set_cons_zero, List.set_cons_succ] at hg)
      exact hg
    exact AllReadyH.nil
  have s4 : ∀ (w' : World) (u1 : Value) (u2 : Value) (u3 : Value) (u4 : Value), Kept [] V w' → IntsT w' u1 (l1) → IntsT w' u2 (l2) → IntsT w' u3 (l3) → IntsT w' u4 (l4) → G 5 #[true, true, true, true, true, true, true, true, false, false, false, false, false] ((((T.setIfInBounds 37 (.agg #[.int .i64 (n1 : Nat), u1])).setIfInBounds 38 (.agg #[.int .i64 (n1 : Nat), u2])).setIfInBounds 40 (.agg #[.int .i64 (n1 : Nat), u3])).setIfInBounds 42 (.agg #[.int .i64 (n1 : Nat), u4])) w' := by
    intro w' u1 u2 u3 u4 hS h1 h2 h3 h4
    subst hG
    subst hT
    (try simp only [List.setIfInBounds_toArray, List.set_cons_zero, List.set_cons_succ])
    refine wpAnyH_ready (rs := [8, 9, 10]) (by kernel_rfl) (by simp) ?_
    refine AllReadyH.cons rfl (fun K hK => ?_) ?_
    · go_simp
      refine (HC5.out _ u3 u4 h3 h4).mono ?_
      rintro e w9 ⟨v9, rfl, hv9, k9⟩
      refine hK.out _ _ ?_ (fun hS1 => ?_)
      · exact hS.trans0 k9
      clear hK K
      (try simp only [Act.put, List.setIfInBounds_toArray, List.set_cons_zero, List.set_cons_succ])
      refine wpAnyH_mask (l' := #[true, true, true, true, true, true, true, true, true, false, false, false, false]) (by kernel_rfl) ?_
      have hg := s5 w9 u1 u2 u3 u4 v9 hS1 (h1.kept k9) (h2.kept k9) (h3.kept k9) (h4.kept k9) hv9
      (try simp only [List.setIfInBounds_toArray, List.set_cons_zero, List.set_cons_succ] at hg)
      exact hg
    refine AllReadyH.cons rfl (fun K hK => ?_) ?_
    · have kn : Kept [] w' (w'.alloc (.cells #[.int .i64 0, .slice none 0 0] 24)) := (Kept.refl _ _).alloc _
      have hn : Blk (w'.alloc (.cells #[.int .i64 0, .slice none 0 0] 24)) w'.heap.size := heap_alloc_new w' _
      have hln : V.heap.size ≤ w'.heap.size := hS.size
      go_simp
      refine hK.out _ _ ?_ (fun hS1 => ?_)
      · exact hS.trans0 kn
      clear hK K
      (try simp only [Act.put, List.setIfInBounds_toArray, List.set_cons_zero, List.set_cons_succ])
      refine wpAnyH_mask (l' := #[true, true, true, true, true, true, true, true, false, true, false, false, false]) (by kernel_rfl) ?_
      have hg := s4A _ u1 u2 u3 u4 w'.heap.size hS1 (h1.kept kn) (h2.kept kn) (h3.kept kn) (h4.kept kn) hn hln
      (try simp only [List.setIfInBounds_toArray, List.set_cons_zero, List.set_cons_succ] at hg)
      exact hg
    refine AllReadyH.cons rfl (fun K hK => ?_) ?_
    · have kn : Kept [] w' (w'.alloc (.cells #[.int .i64 0, .slice none 0 0] 24)) := (Kept.refl _ _).alloc _
      have hn : Blk (w'.alloc (.cells #[.int .i64 0, .slice none 0 0] 24)) w'.heap.size := heap_alloc_new w' _
      have hln : V.heap.size ≤ w'.heap.size := hS.size
      go_simp
      refine hK.out _ _ ?_ (fun hS1 => ?_)
      · exact hS.trans0 kn
      clear hK K
      (try simp only [Act.put, List.setIfInBounds_toArray, List.set_cons_zero, List.set_cons_succ])
      refine wpAnyH_mask (l' := #[true, true, true, true, true, true, true, true, false, false, true, false, false]) (by kernel_rfl) ?_
      have hg := s4B _ u1 u2 u3 u4 w'.heap.size hS1 (h1.kept kn) (h2.kept kn) (h3.kept kn) (h4.kept kn) hn hln
      (try simp only [List.setIfInBounds_toArray, List.set_cons_zero, List.set_cons_succ] at hg)
      exact hg
    exact AllReadyH.nil
  have s1AB : ∀ (w' : World) (u1 : Value) (pA : Nat) (pB : Nat), Kept [] V w' → IntsT w' u1 (l1) → Blk w' pA → V.heap.size ≤ pA → Blk w' pB → V.heap.size ≤ pB → pA ≠ pB → G 6 #[true, true, true, false, true, false, true, false, false, true, true, false, false] (((T.setIfInBounds 37 (.agg #[.int .i64 (n1 : Nat), u1])).setIfInBounds 8 (.pointer (some ⟨pA, 0, none⟩))).setIfInBounds 9 (.pointer (some ⟨pB, 0, none⟩))) w' := by
    intro w' u1 pA pB hS h1 hbA hlA hbB hlB hne
    subst hG
    subst hT
    (try simp only [List.setIfInBounds_toArray, List.set_cons_zero, List.set_cons_succ])
    refine wpAnyH_ready (rs := [3]) (by kernel_rfl) (by simp) ?_
    refine AllReadyH.cons rfl (fun K hK => ?_) ?_
    · go_simp
      refine (HC2.out _ u1 h1).mono ?_
      rintro e w9 ⟨v9, rfl, hv9, k9⟩
      refine hK.out _ _ ?_ (fun hS1 => ?_)
      · exact hS.trans0 k9
      clear hK K
      (try simp only [Act.put, List.setIfInBounds_toArray, List.set_cons_zero, List.set_cons_succ])
      refine wpAnyH_mask (l' := #[true, true, true, true, true, false, true, false, false, true, true, false, false]) (by kernel_rfl) ?_
      have hg := s2AB w9 u1 v9 pA pB hS1 (h1.kept k9) hv9 (hbA.kept k9) hlA (hbB.kept k9) hlB hne
      (try simp only [List.setIfInBounds_toArray, List.set_cons_zero, List.set_cons_succ] at hg)
      exact hg
    exact AllReadyH.nil
  have s2A : ∀ (w' : World) (u1 : Value) (u2 : Value) (pA : Nat), Kept [] V w' → IntsT w' u1 (l1) → IntsT w' u2 (l2) → Blk w' pA → V.heap.size ≤ pA → G 6 #[true, true, true, true, true, false, true, false, false, true, false, false, false] (((T.setIfInBounds 37 (.agg #[.int .i64 (n1 : Nat), u1])).setIfInBounds 38 (.agg #[.int .i64 (n1 : Nat), u2])).setIfInBounds 8 (.pointer (some ⟨pA, 0, none⟩))) w' := by
    intro w' u1 u2 pA hS h1 h2 hbA hlA
    subst hG
    subst hT
    (try simp only [List.setIfInBounds_toArray, List.set_cons_zero, List.set_cons_succ])
    refine wpAnyH_ready (rs := [5, 10]) (by kernel_rfl) (by simp) ?_
    refine AllReadyH.cons rfl (fun K hK => ?_) ?_
    · go_simp
      refine (HC3.out _ hS).mono ?_
      rintro e w9 ⟨v9, rfl, hv9, k9⟩
      refine hK.out _ _ ?_ (fun hS1 => ?_)
      · exact hS.trans0 k9
      clear hK K
      (try simp only [Act.put, List.setIfInBounds_toArray, List.set_cons_zero, List.set_cons_succ])
      refine wpAnyH_mask (l' := #[true, true, true, true, true, true, true, false, false, true, false, false, false]) (by kernel_rfl) ?_
      have hg := s3A w9 u1 u2 v9 pA hS1 (h1.kept k9) (h2.kept k9) hv9 (hbA.kept k9) hlA
      (try simp only [List.setIfInBounds_toArray, List.set_cons_zero, List.set_cons_succ] at hg)
      exact hg
    refine AllReadyH.cons rfl (fun K hK => ?_) ?_
    · have kn : Kept [] w' (w'.alloc (.cells #[.int .i64 0, .slice none 0 0] 24)) := (Kept.refl _ _).alloc _
      have hn : Blk (w'.alloc (.cells #[.int .i64 0, .slice none 0 0] 24)) w'.heap.size := heap_alloc_new w' _
      have hln : V.heap.size ≤ w'.heap.size := hS.size
      have hltn := lt_of_heap hbA
      go_simp
      refine hK.out _ _ ?_ (fun hS1 => ?_)
      · exact hS.trans0 kn
      clear hK K
      (try simp only [Act.put, List.setIfInBounds_toArray, List.set_cons_zero, List.set_cons_succ])
      refine wpAnyH_mask (l' := #[true, true, true, true, true, false, true, false, false, true, true, false, false]) (by kernel_rfl) ?_
      have hg := s2AB _ u1 u2 pA w'.heap.size hS1 (h1.kept kn) (h2.kept kn) (hbA.kept kn) hlA hn hln (by omega)
      (try simp only [List.setIfInBounds_toArray, List.set_cons_zero, List.set_cons_succ] at hg)
      exact hg
    exact AllReadyH.nil
  have s2B : ∀ (w' : World) (u1 : Value) (u2 : Value) (pB : Nat), Kept [] V w' → IntsT w' u1 (l1) → IntsT w' u2 (l2) → Blk w' pB → V.heap.size ≤ pB → G 6 #[true, true, true, true, true, false, true, false, false, false, true, false, false] (((T.setIfInBounds 37 (.agg #[.int .i64 (n1 : Nat), u1])).setIfInBounds 38 (.agg #[.int .i64 (n1 : Nat), u2])).setIfInBounds 9 (.pointer (some ⟨pB, 0, none⟩))) w' := by
    intro w' u1 u2 pB hS h1 h2 hbB hlB
    subst hG
    subst hT
    (try simp only [List.setIfInBounds_toArray, List.set_cons_zero, List.set_cons_succ])
    refine wpAnyH_ready (rs := [5, 9]) (by kernel_rfl) (by simp) ?_
    refine AllReadyH.cons rfl (fun K hK => ?_) ?_
    · go_simp
      refine (HC3.out _ hS).mono ?_
      rintro e w9 ⟨v9, rfl, hv9, k9⟩
      refine hK.out _ _ ?_ (fun hS1 => ?_)
      · exact hS.trans0 k9
      clear hK K
      (try simp only [Act.put, List.setIfInBounds_toArray, List.set_cons_zero, List.set_cons_succ])
      refine wpAnyH_mask (l' := #[true, true, true, true, true, true, true, false, false, false, true, false, false]) (by kernel_rfl) ?_
      have hg := s3B w9 u1 u2 v9 pB hS1 (h1.kept k9) (h2.kept k9) hv9 (hbB.kept k9) hlB
      (try simp only [List.setIfInBounds_toArray, List.set_cons_zero, List.set_cons_succ] at hg)
      exact hg
    refine AllReadyH.cons rfl (fun K hK => ?_) ?_
    · have kn : Kept [] w' (w'.alloc (.cells #[.int .i64 0, .slice none 0 0] 24)) := (Kept.refl _ _).alloc _
      have hn : Blk (w'.alloc (.cells #[.int .i64 0, .slice none 0 0] 24)) w'.heap.size := heap_alloc_new w' _
      have hln : V.heap.size ≤ w'.heap.size := hS.size
      have hltn := lt_of_heap hbB
      go_simp
      refine hK.out _ _ ?_ (fun hS1 => ?_)
      · exact hS.trans0 kn
      clear hK K
      (try simp only [Act.put, List.setIfInBounds_toArray, List.set_cons_zero, List.set_cons_succ])
      refine wpAnyH_mask (l' := #[true, true, true, true, true, false, true, false, false, true, true, false, false]) (by kernel_rfl) ?_
      have hg := s2AB _ u1 u2 w'.heap.size pB hS1 (h1.kept kn) (h2.kept kn) hn hln (hbB.kept kn) hlB (by omega)
      (try simp only [List.setIfInBounds_toArray, List.set_cons_zero, List.set_cons_succ] at hg)
      exact hg
    exact AllReadyH.nil
  have s3 : ∀ (w' : World) (u1 : Value) (u2 : Value) (u3 : Value), Kept [] V w' → IntsT w' u1 (l1) → IntsT w' u2 (l2) → IntsT w' u3 (l3) → G 6 #[true, true, true, true, true, true, true, false, false, false, false, false, false] (((T.setIfInBounds 37 (.agg #[.int .i64 (n1 : Nat), u1])).setIfInBounds 38 (.agg #[.int .i64 (n1 : Nat), u2])).setIfInBounds 40 (.agg #[.int .i64 (n1 : Nat), u3])) w' := by
    intro w' u1 u2 u3 hS h1 h2 h3
    subst hG
    subst hT
    (try simp only [List.setIfInBounds_toArray, List.set_cons_zero, List.set_cons_succ])
    refine wpAnyH_ready (rs := [7, 9, 10]) (by kernel_rfl) (by simp) ?_
    refine AllReadyH.cons rfl (fun K hK => ?_) ?_
    · go_simp
      refine (HC4.out _ hS).mono ?_
      rintro e w9 ⟨v9, rfl, hv9, k9⟩
      refine hK.out _ _ ?_ (fun hS1 => ?_)
      · exact hS.trans0 k9
      clear hK K
      (try simp only [Act.put, List.setIfInBounds_toArray, List.set_cons_zero, List.set_cons_succ])
      refine wpAnyH_mask (l' := #[true, true, true, true, true, true, true, true, false, false, false, false, false]) (by kernel_rfl) ?_
      have hg := s4 w9 u1 u2 u3 v9 hS1 (h1.kept k9) (h2.kept k9) (h3.kept k9) hv9
      (try simp only [List.setIfInBounds_toArray, List.set_cons_zero, List.set_cons_succ] at hg)
      exact hg
    refine AllReadyH.cons rfl (fun K hK => ?_) ?_
    · have kn : Kept [] w' (w'.alloc (.cells #[.int .i64 0, .slice none 0 0] 24)) := (Kept.refl _ _).alloc _
      have hn : Blk (w'.alloc (.cells #[.int .i64 0, .slice none 0 0] 24)) w'.heap.size := heap_alloc_new w' _
      have hln : V.heap.size ≤ w'.heap.size := hS.size
      go_simp
      refine hK.out _ _ ?_ (fun hS1 => ?_)
      · exact hS.trans0 kn
      clear hK K
      (try simp only [Act.put, List.setIfInBounds_toArray, List.set_cons_zero, List.set_cons_succ])
      refine wpAnyH_mask (l' := #[true, true, true, true, true, true, true, false, false, true, false, false, false]) (by kernel_rfl) ?_
      have hg := s3A _ u1 u2 u3 w'.heap.size hS1 (h1.kept kn) (h2.kept kn) (h3.kept kn) hn hln
      (try simp only [List.setIfInBounds_toArray, List.set_cons_zero, List.set_cons_succ] at hg)
      exact hg
    refine AllReadyH.cons rfl (fun K hK => ?_) ?_
    · have kn : Kept [] w' (w'.alloc (.cells #[.int .i64 0, .slice none 0 0] 24)) := (Kept.refl _ _).alloc _
      have hn : Blk (w'.alloc (.cells #[.int .i64 0, .slice none 0 0] 24)) w'.heap.size := heap_alloc_new w' _
      have hln : V.heap.size ≤ w'.heap.size := hS.size
      go_simp
      refine hK.out _ _ ?_ (fun hS1 => ?_)
      · exact hS.trans0 kn
      clear hK K
      (try simp only [Act.put, List.setIfInBounds_toArray, List.set_cons_zero, List.set_cons_succ])
      refine wpAnyH_mask (l' := #[true, true, true, true, true, true, true, false, false, false, true, false, false]) (by kernel_rfl) ?_
      have hg := s3B _ u1 u2 u3 w'.heap.size hS1 (h1.kept kn) (h2.kept kn) (h3.kept kn) hn hln
      (try simp only [List.setIfInBounds_toArray, List.set_cons_zero, List.set_cons_succ] at hg)
      exact hg
    exact AllReadyH.nil
  have s0AB : ∀ (w' : World) (pA : Nat) (pB : Nat), Kept [] V w' → Blk w' pA → V.heap.size ≤ pA → Blk w' pB → V.heap.size ≤ pB → pA ≠ pB → G 7 #[true, true, false, false, true, false, true, false, false, true, true, false, false] ((T.setIfInBounds 8 (.pointer (some ⟨pA, 0, none⟩))).setIfInBounds 9 (.pointer (some ⟨pB, 0, none⟩))) w' := by
    intro w' pA pB hS hbA hlA hbB hlB hne
    subst hG
    subst hT
    (try simp only [List.setIfInBounds_toArray, List.set_cons_zero, List.set_cons_succ])
    refine wpAnyH_ready (rs := [2]) (by kernel_rfl) (by simp) ?_
    refine AllReadyH.cons rfl (fun K hK => ?_) ?_
    · go_simp
      refine (HC1.out _ hS).mono ?_
      rintro e w9 ⟨v9, rfl, hv9, k9⟩
      refine hK.out _ _ ?_ (fun hS1 => ?_)
      · exact hS.trans0 k9
      clear hK K
      (try simp only [Act.put, List.setIfInBounds_toArray, List.set_cons_zero, List.set_cons_succ])
      refine wpAnyH_mask (l' := #[true, true, true, false, true, false, true, false, false, true, true, false, false]) (by kernel_rfl) ?_
      have hg := s1AB w9 v9 pA pB hS1 hv9 (hbA.kept k9) hlA (hbB.kept k9) hlB hne
      (try simp only [List.setIfInBounds_toArray, List.set_cons_zero, List.set_cons_succ] at hg)
      exact hg
    exact AllReadyH.nil
  have s1A : ∀ (w' : World) (u1 : Value) (pA : Nat), Kept [] V w' → IntsT w' u1 (l1) → Blk w' pA → V.heap.size ≤ pA → G 7 #[true, true, true, false, true, false, true, false, false, true, false, false, false] ((T.setIfInBounds 37 (.agg #[.int .i64 (n1 : Nat), u1])).setIfInBounds 8 (.pointer (some ⟨pA, 0, none⟩))) w' := by
    intro w' u1 pA hS h1 hbA hlA
    subst hG
    subst hT
    (try simp only [List.setIfInBounds_toArray, List.set_cons_zero, List.set_cons_succ])
    refine wpAnyH_ready (rs := [3, 10]) (by kernel_rfl) (by simp) ?_
    refine AllReadyH.cons rfl (fun K hK => ?_) ?_
    · go_simp
      refine (HC2.out _ u1 h1).mono ?_
      rintro e w9 ⟨v9, rfl, hv9, k9⟩
      refine hK.out _ _ ?_ (fun hS1 => ?_)
      · exact hS.trans0 k9
      clear hK K
      (try simp only [Act.put, List.setIfInBounds_toArray, List.set_cons_zero, List.set_cons_succ])
      refine wpAnyH_mask (l' := #[true, true, true, true, true, false, true, false, false, true, false, false, false]) (by kernel_rfl) ?_
      have hg := s2A w9 u1 v9 pA hS1 (h1.kept k9) hv9 (hbA.kept k9) hlA
      (try simp only [List.setIfInBounds_toArray, List.set_cons_zero, List.set_cons_succ] at hg)
      exact hg
    refine AllReadyH.cons rfl (fun K hK => ?_) ?_
    · have kn : Kept [] w' (w'.alloc (.cells #[.int .i64 0, .slice none 0 0] 24)) := (Kept.refl _ _).alloc _
      have hn : Blk (w'.alloc (.cells #[.int .i64 0, .slice none 0 0] 24)) w'.heap.size := heap_alloc_new w' _
      have hln : V.heap.size ≤ w'.heap.size := hS.size
      have hltn := lt_of_heap hbA
      go_simp
      refine hK.out _ _ ?_ (fun hS1 => ?_)
      · exact hS.trans0 kn
      clear hK K
      (try simp only [Act.put, List.setIfInBounds_toArray, List.set_cons_zero, List.set_cons_succ])
      refine wpAnyH_mask (l' := #[true, true, true, false, true, false, true, false, false, true, true, false, false]) (by kernel_rfl) ?_
      have hg := s1AB _ u1 pA w'.heap.size hS1 (h1.kept kn) (hbA.kept kn) hlA hn hln (by omega)
      (try simp only [List.setIfInBounds_toArray, List.set_cons_zero, List.set_cons_succ] at hg)
      exact hg
    exact AllReadyH.nil
  have s1B : ∀ (w' : World) (u1 : Value) (pB : Nat), Kept [] V w' → IntsT w' u1 (l1) → Blk w' pB → V.heap.size ≤ pB → G 7 #[true, true, true, false, true, false, true, false, false, false, true, false, false] ((T.setIfInBounds 37 (.agg #[.int .i64 (n1 : Nat), u1])).setIfInBounds 9 (.pointer (some ⟨pB, 0, none⟩))) w' := by
    intro w' u1 pB hS h1 hbB hlB
    subst hG
    subst hT
    (try simp only [List.setIfInBounds_toArray, List.set_cons_zero, List.set_cons_succ])
    refine wpAnyH_ready (rs := [3, 9]) (by kernel_rfl) (by simp) ?_
    refine AllReadyH.cons rfl (fun K hK => ?_) ?_
    · go_simp
      refine (HC2.out _ u1 h1).mono ?_
      rintro e w9 ⟨v9, rfl, hv9, k9⟩
      refine hK.out _ _ ?_ (fun hS1 => ?_)
      · exact hS.trans0 k9
      clear hK K
      (try simp only [Act.put, List.setIfInBounds_toArray, List.set_cons_zero, List.set_cons_succ])
      refine wpAnyH_mask (l' := #[true, true, true, true, true, false, true, false, false, false, true, false, false]) (by kernel_rfl) ?_
      have hg := s2B w9 u1 v9 pB hS1 (h1.kept k9) hv9 (hbB.kept k9) hlB
      (try simp only [List.setIfInBounds_toArray, List.set_cons_zero, List.set_cons_succ] at hg)
      exact hg
    refine AllReadyH.cons rfl (fun K hK => ?_) ?_
    · have kn : Kept [] w' (w'.alloc (.cells #[.int .i64 0, .slice none 0 0] 24)) := (Kept.refl _ _).alloc _
      have hn : Blk (w'.alloc (.cells #[.int .i64 0, .slice none 0 0] 24)) w'.heap.size := heap_alloc_new w' _
      have hln : V.heap.size ≤ w'.heap.size := hS.size
      have hltn := lt_of_heap hbB
      go_simp
      refine hK.out _ _ ?_ (fun hS1 => ?_)
      · exact hS.trans0 kn
      clear hK K
      (try simp only [Act.put, List.setIfInBounds_toArray, List.set_cons_zero, List.set_cons_succ])
      refine wpAnyH_mask (l' := #[true, true, true, false, true, false, true, false, false, true, true, false, false]) (by kernel_rfl) ?_
      have hg := s1AB _ u1 w'.heap.size pB hS1 (h1.kept kn) hn hln (hbB.kept kn) hlB (by omega)
      (try simp only [List.setIfInBounds_toArray, List.set_cons_zero, List.set_cons_succ] at hg)
      exact hg
    exact AllReadyH.nil
  have s2 : ∀ (w' : World) (u1 : Value) (u2 : Value), Kept [] V w' → IntsT w' u1 (l1) → IntsT w' u2 (l2) → G 7 #[true, true, true, true, true, false, true, false, false, false, false, false, false] ((T.setIfInBounds 37 (.agg #[.int .i64 (n1 : Nat), u1])).setIfInBounds 38 (.agg #[.int .i64 (n1 : Nat), u2])) w' := by
    intro w' u1 u2 hS h1 h2
    subst hG
    subst hT
    (try simp only [List.setIfInBounds_toArray, List.set_cons_zero, List.set_cons_succ])
    refine wpAnyH_ready (rs := [5, 9, 10]) (by kernel_rfl) (by simp) ?_
    refine AllReadyH.cons rfl (fun K hK => ?_) ?_
    · go_simp
      refine (HC3.out _ hS).mono ?_
      rintro e w9 ⟨v9, rfl, hv9, k9⟩
      refine hK.out _ _ ?_ (fun hS1 => ?_)
      · exact hS.trans0 k9
      clear hK K
      (try simp only [Act.put, List.setIfInBounds_toArray, List.set_cons_zero, List.set_cons_succ])
      refine wpAnyH_mask (l' := #[true, true, true, true, true, true, true, false, false, false, false, false, false]) (by kernel_rfl) ?_
      have hg := s3 w9 u1 u2 v9 hS1 (h1.kept k9) (h2.kept k9) hv9
      (try simp only [List.setIfInBounds_toArray, List.set_cons_zero, List.set_cons_succ] at hg)
      exact hg
    refine AllReadyH.cons rfl (fun K hK => ?_) ?_
    · have kn : Kept [] w' (w'.alloc (.cells #[.int .i64 0, .slice none 0 0] 24)) := (Kept.refl _ _).alloc _
      have hn : Blk (w'.alloc (.cells #[.int .i64 0, .slice none 0 0] 24)) w'.heap.size := heap_alloc_new w' _
      have hln : V.heap.size ≤ w'.heap.size := hS.size
      go_simp
      refine hK.out _ _ ?_ (fun hS1 => ?_)
      · exact hS.trans0 kn
      clear hK K
      (try simp only [Act.put, List.setIfInBounds_toArray, List.set_cons_zero, List.set_cons_succ])
      refine wpAnyH_mask (l' := #[true, true, true, true, true, false, true, false, false, true, false, false, false]) (by kernel_rfl) ?_
      have hg := s2A _ u1 u2 w'.heap.size hS1 (h1.kept kn) (h2.kept kn) hn hln
      (try simp only [List.setIfInBounds_toArray, List.set_cons_zero, List.set_cons_succ] at hg)
      exact hg
    refine AllReadyH.cons rfl (fun K hK => ?_) ?_
    · have kn : Kept [] w' (w'.alloc (.cells #[.int .i64 0, .slice none 0 0] 24)) := (Kept.refl _ _).alloc _
      have hn : Blk (w'.alloc (.cells #[.int .i64 0, .slice none 0 0] 24)) w'.heap.size := heap_alloc_new w' _
      have hln : V.heap.size ≤ w'.heap.size := hS.size
      go_simp
      refine hK.out _ _ ?_ (fun hS1 => ?_)
      · exact hS.trans0 kn
      clear hK K
      (try simp only [Act.put, List.setIfInBounds_toArray, List.set_cons_zero, List.set_cons_succ])
      refine wpAnyH_mask (l' := #[true, true, true, true, true, false, true, false, false, false, true, false, false]) (by kernel_rfl) ?_
      have hg := s2B _ u1 u2 w'.heap.size hS1 (h1.kept kn) (h2.kept kn) hn hln
      (try simp only [List.setIfInBounds_toArray, List.set_cons_zero, List.set_cons_succ] at hg)
      exact hg
    exact AllReadyH.nil
  have s0A : ∀ (w' : World) (pA : Nat), Kept [] V w' → Blk w' pA → V.heap.size ≤ pA → G 8 #[true, true, false, false, true, false, true, false, false, true, false, false, false] (T.setIfInBounds 8 (.pointer (some ⟨pA, 0, none⟩))) w' := by
    intro w' pA hS hbA hlA
    subst hG
    subst hT
    (try simp only [List.setIfInBounds_toArray, List.set_cons_zero, List.set_cons_succ])
    refine wpAnyH_ready (rs := [2, 10]) (by kernel_rfl) (by simp) ?_
    refine AllReadyH.cons rfl (fun K hK => ?_) ?_
    · go_simp
      refine (HC1.out _ hS).mono ?_
      rintro e w9 ⟨v9, rfl, hv9, k9⟩
      refine hK.out _ _ ?_ (fun hS1 => ?_)
      · exact hS.trans0 k9
      clear hK K
      (try simp only [Act.put, List.setIfInBounds_toArray, List.set_cons_zero, List.set_cons_succ])
      refine wpAnyH_mask (l' := #[true, true, true, false, true, false, true, false, false, true, false, false, false]) (by kernel_rfl) ?_
      have hg := s1A w9 v9 pA hS1 hv9 (hbA.kept k9) hlA
      (try simp only [List.setIfInBounds_toArray, List.set_cons_zero, List.set_cons_succ] at hg)
      exact hg
    refine AllReadyH.cons rfl (fun K hK => ?_) ?_
    · have kn : Kept [] w' (w'.alloc (.cells #[.int .i64 0, .slice none 0 0] 24)) := (Kept.refl _ _).alloc _
      have hn : Blk (w'.alloc (.cells #[.int .i64 0, .slice none 0 0] 24)) w'.heap.size := heap_alloc_new w' _
      have hln : V.heap.size ≤ w'.heap.size := hS.size
      have hltn := lt_of_heap hbA
      go_simp
      refine hK.out _ _ ?_ (fun hS1 => ?_)
      · exact hS.trans0 kn
      clear hK K
      (try simp only [Act.put, List.setIfInBounds_toArray, List.set_cons_zero, List.set_cons_succ])
      refine wpAnyH_mask (l' := #[true, true, false, false, true, false, true, false, false, true, true, false, false]) (by kernel_rfl) ?_
      have hg := s0AB _ pA w'.heap.size hS1 (hbA.kept kn) hlA hn hln (by omega)
      (try simp only [List.setIfInBounds_toArray, List.set_cons_zero, List.set_cons_succ] at hg)
      exact hg
    exact AllReadyH.nil
  have s0B : ∀ (w' : World) (pB : Nat), Kept [] V w' → Blk w' pB → V.heap.size ≤ pB → G 8 #[true, true, false, false, true, false, true, false, false, false, true, false, false] (T.setIfInBounds 9 (.pointer (some ⟨pB, 0, none⟩))) w' := by
    intro w' pB hS hbB hlB
    subst hG
    subst hT
    (try simp only [List.setIfInBounds_toArray, List.set_cons_zero, List.set_cons_succ])
    refine wpAnyH_ready (rs := [2, 9]) (by kernel_rfl) (by simp) ?_
    refine AllReadyH.cons rfl (fun K hK => ?_) ?_
    · go_simp
      refine (HC1.out _ hS).mono ?_
      rintro e w9 ⟨v9, rfl, hv9, k9⟩
      refine hK.out _ _ ?_ (fun hS1 => ?_)
      · exact hS.trans0 k9
      clear hK K
      (try simp only [Act.put, List.setIfInBounds_toArray, List.set_cons_zero, List.set_cons_succ])
      refine wpAnyH_mask (l' := #[true, true, true, false, true, false, true, false, false, false, true, false, false]) (by kernel_rfl) ?_
      have hg := s1B w9 v9 pB hS1 hv9 (hbB.kept k9) hlB
      (try simp only [List.setIfInBounds_toArray, List.set_cons_zero, List.set_cons_succ] at hg)
      exact hg
    refine AllReadyH.cons rfl (fun K hK => ?_) ?_
    · have kn : Kept [] w' (w'.alloc (.cells #[.int .i64 0, .slice none 0 0] 24)) := (Kept.refl _ _).alloc _
      have hn : Blk (w'.alloc (.cells #[.int .i64 0, .slice none 0 0] 24)) w'.heap.size := heap_alloc_new w' _
      have hln : V.heap.size ≤ w'.heap.size := hS.size
      have hltn := lt_of_heap hbB
      go_simp
      refine hK.out _ _ ?_ (fun hS1 => ?_)
      · exact hS.trans0 kn
      clear hK K
      (try simp only [Act.put, List.setIfInBounds_toArray, List.set_cons_zero, List.set_cons_succ])
      refine wpAnyH_mask (l' := #[true, true, false, false, true, false, true, false, false, true, true, false, false]) (by kernel_rfl) ?_
      have hg := s0AB _ w'.heap.size pB hS1 hn hln (hbB.kept kn) hlB (by omega)
      (try simp only [List.setIfInBounds_toArray, List.set_cons_zero, List.set_cons_succ] at hg)
      exact hg
    exact AllReadyH.nil
  have s1 : ∀ (w' : World) (u1 : Value), Kept [] V w' → IntsT w' u1 (l1) → G 8 #[true, true, true, false, true, false, true, false, false, false, false, false, false] (T.setIfInBounds 37 (.agg #[.int .i64 (n1 : Nat), u1])) w' := by
    intro w' u1 hS h1
    subst hG
    subst hT
    (try simp only [List.setIfInBounds_toArray, List.set_cons_zero, List.set_cons_succ])
    refine wpAnyH_ready (rs := [3, 9, 10]) (by kernel_rfl) (by simp) ?_
    refine AllReadyH.cons rfl (fun K hK => ?_) ?_
    · go_simp
      refine (HC2.out _ u1 h1).mono ?_
      rintro e w9 ⟨v9, rfl, hv9, k9⟩
      refine hK.out _ _ ?_ (fun hS1 => ?_)
      · exact hS.trans0 k9
      clear hK K
      (try simp only [Act.put, List.setIfInBounds_toArray, List.set_cons_zero, List.set_cons_succ])
      refine wpAnyH_mask (l' := #[true, true, true, true, true, false, true, false, false, false, false, false, false]) (by kernel_rfl) ?_
      have hg := s2 w9 u1 v9 hS1 (h1.kept k9) hv9
      (try simp only [List.setIfInBounds_toArray, List.set_cons_zero, List.set_cons_succ] at hg)
      exact hg
    refine AllReadyH.cons rfl (fun K hK => ?_) ?_
    · have kn : Kept [] w' (w'.alloc (.cells #[.int .i64 0, .slice none 0 0] 24)) := (Kept.refl _ _).alloc _
      have hn : Blk (w'.alloc (.cells #[.int .i64 0, .slice none 0 0] 24)) w'.heap.size := heap_alloc_new w' _
      have hln : V.heap.size ≤ w'.heap.size := hS.size
      go_simp
      refine hK.out _ _ ?_ (fun hS1 => ?_)
      · exact hS.trans0 kn
      clear hK K
      (try simp only [Act.put, List.setIfInBounds_toArray, List.set_cons_zero, List.set_cons_succ])
      refine wpAnyH_mask (l' := #[true, true, true, false, true, false, true, false, false, true, false, false, false]) (by kernel_rfl) ?_
      have hg := s1A _ u1 w'.heap.size hS1 (h1.kept kn) hn hln
      (try simp only [List.setIfInBounds_toArray, List.set_cons_zero, List.set_cons_succ] at hg)
      exact hg
    refine AllReadyH.cons rfl (fun K hK => ?_) ?_
    · have kn : Kept [] w' (w'.alloc (.cells #[.int .i64 0, .slice none 0 0] 24)) := (Kept.refl _ _).alloc _
      have hn : Blk (w'.alloc (.cells #[.int .i64 0, .slice none 0 0] 24)) w'.heap.size := heap_alloc_new w' _
      have hln : V.heap.size ≤ w'.heap.size := hS.size
      go_simp
      refine hK.out _ _ ?_ (fun hS1 => ?_)
      · exact hS.trans0 kn
      clear hK K
      (try simp only [Act.put, List.setIfInBounds_toArray, List.set_cons_zero, List.set_cons_succ])
      refine wpAnyH_mask (l' := #[true, true, true, false, true, false, true, false, false, false, true, false, false]) (by kernel_rfl) ?_
      have hg := s1B _ u1 w'.heap.size hS1 (h1.kept kn) hn hln
      (try simp only [List.setIfInBounds_toArray, List.set_cons_zero, List.set_cons_succ] at hg)
      exact hg
    exact AllReadyH.nil
  have s0 : ∀ (w' : World), Kept [] V w' → G 9 #[true, true, false, false, true, false, true, false, false, false, false, false, false] T w' := by
    intro w' hS
    subst hG
    subst hT
    (try simp only [List.setIfInBounds_toArray, List.set_cons_zero, List.set_cons_succ])
    refine wpAnyH_ready (rs := [2, 9, 10]) (by kernel_rfl) (by simp) ?_
    refine AllReadyH.cons rfl (fun K hK => ?_) ?_
    · go_simp
      refine (HC1.out _ hS).mono ?_
      rintro e w9 ⟨v9, rfl, hv9, k9⟩
      refine hK.out _ _ ?_ (fun hS1 => ?_)
      · exact hS.trans0 k9
      clear hK K
      (try simp only [Act.put, List.setIfInBounds_toArray, List.set_cons_zero, List.set_cons_succ])
      refine wpAnyH_mask (l' := #[true, true, true, false, true, false, true, false, false, false, false, false, false]) (by kernel_rfl) ?_
      have hg := s1 w9 v9 hS1 hv9
      (try simp only [List.setIfInBounds_toArray, List.set_cons_zero, List.set_cons_succ] at hg)
      exact hg
    refine AllReadyH.cons rfl (fun K hK => ?_) ?_
    · have kn : Kept [] w' (w'.alloc (.cells #[.int .i64 0, .slice none 0 0] 24)) := (Kept.refl _ _).alloc _
      have hn : Blk (w'.alloc (.cells #[.int .i64 0, .slice none 0 0] 24)) w'.heap.size := heap_alloc_new w' _
      have hln : V.heap.size ≤ w'.heap.size := hS.size
      go_simp
      refine hK.out _ _ ?_ (fun hS1 => ?_)
      · exact hS.trans0 kn
      clear hK K
      (try simp only [Act.put, List.setIfInBounds_toArray, List.set_cons_zero, List.set_cons_succ])
      refine wpAnyH_mask (l' := #[true, true, false, false, true, false, true, false, false, true, false, false, false]) (by kernel_rfl) ?_
      have hg := s0A _ w'.heap.size hS1 hn hln
      (try simp only [List.setIfInBounds_toArray, List.set_cons_zero, List.set_cons_succ] at hg)
      exact hg
    refine AllReadyH.cons rfl (fun K hK => ?_) ?_
    · have kn : Kept [] w' (w'.alloc (.cells #[.int .i64 0, .slice none 0 0] 24)) := (Kept.refl _ _).alloc _
      have hn : Blk (w'.alloc (.cells #[.int .i64 0, .slice none 0 0] 24)) w'.heap.size := heap_alloc_new w' _
      have hln : V.heap.size ≤ w'.heap.size := hS.size
      go_simp
      refine hK.out _ _ ?_ (fun hS1 => ?_)
      · exact hS.trans0 kn
      clear hK K
      (try simp only [Act.put, List.setIfInBounds_toArray, List.set_cons_zero, List.set_cons_succ])
      refine wpAnyH_mask (l' := #[true, true, false, false, true, false, true, false, false, false, true, false, false]) (by kernel_rfl) ?_
      have hg := s0B _ w'.heap.size hS1 hn hln
      (try simp only [List.setIfInBounds_toArray, List.set_cons_zero, List.set_cons_succ] at hg)
      exact hg
    exact AllReadyH.nil
  exact s0 _ hS

theorem fnDeMorgan_c (L1 L2 : Int) (v1 v2 : Value) (zs1 zs2 : List Int) (w : World) (hv1 : IntsZ w v1 zs1) (hv2 : IntsZ w v2 zs2) (hlen1 : zs1.length ≤ 9223372036854775807) (hlen2 : zs2.length ≤ 9223372036854775807)
    (hL1 : -9223372036854775808 ≤ L1) (hR1 : L1 ≤ 9223372036854775807) (hL2 : -9223372036854775808 ≤ L2) (hR2 : L2 ≤ 9223372036854775807) :
    Calls Try.prog 5 #[.agg #[.int .i64 L1, v1], .agg #[.int .i64 L2, v2]] w fun e w' => e = .returned (.bool true) ∧ Kept [] w w' := by
  by_cases hg : Good L1 zs1 ∧ Good L2 zs2
  · obtain ⟨n1, on1, rfl, q1, q2, q3, q4⟩ := hv1.good hg.1
    obtain ⟨n2, on2, rfl, p1, p2, p3, p4⟩ := hv2.good hg.2
    by_cases hs : lenOf n1 on1 = lenOf n2 on2
    · exact fnDeMorgan_good n1 n2 v1 v2 on1 on2 w q4 p4 q1 p1 q2 p2 q3 p3 hs
    · exact fnDeMorgan_other n1 n2 v1 v2 on1 on2 w q4 p4 q1 p1 q2 p2 q3 p3 hs
  · exact fnDeMorgan_bad L1 L2 v1 v2 zs1 zs2 w hv1 hv2 hlen1 hlen2 hL1 hR1 hL2 hR2 hg

open Go.ChangeShapes Go.WideShapes Go.ChangeAt Go.Joins

set_option maxRecDepth 100000 in
theorem fnDeMorgan_lifted (os : Os) (started : os.Started) (H : Type) (enc : TypeId × Value → H) :
    ReturnsInHanded {} Try.checked os 5 .any (Rows.fnDeMorganSpec.pre6 enc Try.prog Try.f5 Rows.fnDeMorganRow.domain false) (Rows.fnDeMorganSpec.post enc Try.prog Try.f5 false true false false) := by
  refine returnsInHanded_of_change (C := Try.checked) Try.own started (by kernel_rfl) Try.func5
    (ChangeSpec.witness6 (enc := enc) (C := Try.checked) false ⟨#[], #[.agg #[.int .i64 0, .slice none 0 0], .agg #[.int .i64 0, .slice none 0 0]], []⟩ 8 (by kernel_rfl) (by kernel_rfl) (by kernel_rfl) (by kernel_rfl)) ?_
  intro W base args ds gs before hval0 hW _ _
  have hval : ∀ (j : Nat) t v, Try.f5.params[j]? = some t → args[j]? = some v → Value.okWide Try.prog W .any base t v := hval0
  have hW' := hW
  obtain ⟨p, q, hA0, hV, rfl, _, _⟩ := hW
  have hA : DataW.TrodAll enc Try.prog W 0 (fun _ => true) true Try.f5.params.toList args.toList ds p := hA0
  rw [Try.params5] at hA hval
  obtain ⟨v0, v1, d0, d1, p0, p1, rfl, rfl, rfl, h0, h1⟩ := trodAll_two hA
  obtain ⟨rfl, rfl⟩ := trodVars_none hV
  obtain ⟨L1, s1, zs1, rfl, hz1, hlen1, hL1, hR1⟩ := bits_read (hval 1 24 v1 rfl rfl) h1
  obtain ⟨L0, s0, zs0, rfl, hz0, hlen0, hL0, hR0⟩ := bits_read (hval 0 24 v0 rfl rfl) h0
  clear hA0 hval0
  simp only [List.append_nil] at hW'
  have hlt0 : ∀ x ∈ p0, x.block < W.heap.size := fun x hx => by simpa using hW'.lt x (by simp [hx])
  have hlt1 : ∀ x ∈ p1, x.block < W.heap.size := fun x hx => by simpa using hW'.lt x (by simp [hx])
  refine (fnDeMorgan_c L0 L1 s0 s1 zs0 zs1 W hz0 hz1 hlen0 hlen1 hL0 hR0 hL1 hR1).mono fun e W' ⟨he, hk⟩ => ?_
  subst he
  have hb := hk.below
  refine ⟨_, rfl, _, _, _, [], p0 ++ p1, [], hW', ?_, ?_, rfl, hb.frame _, fun h => by cases h⟩
  · exact trodAll_mk1 (shut_bool Try.underlying4 true)
  · exact trodAll_mk2 (Below.trod Try.laidOut (by kernel_rfl) (of_decide_eq_true (by kernel_rfl)) h0 hb hlt0) (Below.trod Try.laidOut (by kernel_rfl) (of_decide_eq_true (by kernel_rfl)) h1 hb hlt1)

theorem fnDeMorgan_holds : Rows.FnDeMorganSaid :=
  OpenClaim.holds_of_wide 5 Try.f5 rfl rfl rfl rfl rfl rfl rfl ⟨rfl, rfl, rfl, rfl, rfl⟩ rfl rfl rfl rfl rfl (by kernel_rfl) Try.func5 (by kernel_rfl)
    (of_decide_eq_true (by kernel_rfl)) (by unfold Func.isWrapper; first | (rw [if_pos (by decide +kernel)]; kernel_rfl) | (rw [if_neg (by decide +kernel)]; exact ⟨rfl, rfl⟩))
    (fun os started H enc _ => fnDeMorgan_lifted os started H enc)

end Go.Proofs.Ytiaghdnhapiioaa

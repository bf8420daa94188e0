/-
  laws.FnStrictSuperSet: for every input.
-/
import Derived.Test.YtdngkdidelogbaaIIsStrictSuperSet
import Derived.Test.YtdngkdidelogbaaMemo
import Derived.Test.YtdngkdidelogbaaBothBad
namespace Go.Proofs.Ytdngkdidelogbaa
set_option linter.unusedSimpArgs false
set_option linter.unusedVariables false
open Go.RowKit

theorem fAt_nat (n : Nat) (f : Nat → Bool) (j : Nat) : fAt n f ((j : Nat) : Int) = (decide (j < n) && f j) := by simp [fAt]
theorem cnt_le (N : Nat) (F G : Nat → Bool) (h : ∀ j, j < N → G j = true → F j = true) : (onL N G).length ≤ (onL N F).length := by
  induction N with
  | zero => exact Nat.le_refl _
  | succ N ih =>
    have := ih (fun j hj => h j (by omega))
    cases hg : G N with
    | true => rw [onL_yes hg, onL_yes (h N (by omega) hg)]; simp; omega
    | false =>
      rw [onL_no hg]
      cases hf : F N with
      | true => rw [onL_yes hf]; simp; omega
      | false => rw [onL_no hf]; exact this
theorem cnt_lt (N k : Nat) (F G : Nat → Bool) (h : ∀ j, j < N → G j = true → F j = true) (hk : k < N) (h1 : F k = true) (h2 : G k = false) : (onL N G).length < (onL N F).length := by
  induction N with
  | zero => omega
  | succ N ih =>
    by_cases e : k = N
    · subst e
      have := cnt_le k F G (fun j hj => h j (by omega))
      rw [onL_no h2, onL_yes h1]; simp; omega
    · have := ih (fun j hj => h j (by omega)) (by omega)
      cases hg : G N with
      | true => rw [onL_yes hg, onL_yes (h N (by omega) hg)]; simp; omega
      | false =>
        rw [onL_no hg]
        cases hf : F N with
        | true => rw [onL_yes hf]; simp; omega
        | false => rw [onL_no hf]; exact this
set_option maxHeartbeats 1000000 in
set_option maxRecDepth 100000 in
theorem fnStrictSuperSet_bad (L1 L2 : Int) (v1 v2 : Value) (zs1 zs2 : List Int) (w : World) (hv1 : IntsZ w v1 zs1) (hv2 : IntsZ w v2 zs2) (hlen1 : zs1.length ≤ 9223372036854775807) (hlen2 : zs2.length ≤ 9223372036854775807)
    (hL1 : -9223372036854775808 ≤ L1) (hR1 : L1 ≤ 9223372036854775807) (hL2 : -9223372036854775808 ≤ L2) (hR2 : L2 ≤ 9223372036854775807) (hb : ¬ (Good L1 zs1 ∧ Good L2 zs2)) :
    Calls Try.prog 9 #[.agg #[.int .i64 L1, v1], .agg #[.int .i64 L2, v2]] w fun e w' => e = .returned (.bool true) ∧ Kept [] w w' := by
  obtain ⟨ad1, e1, cp1, rfl⟩ : ∃ ad m cap, v1 = .slice ad m cap := by
    rcases hv1 with ⟨ad, cap, h3, h4⟩ | ⟨b, off, cap, h3, _, _⟩ <;> exact ⟨_, _, _, h3⟩
  obtain ⟨ad2, e2, cp2, rfl⟩ : ∃ ad m cap, v2 = .slice ad m cap := by
    rcases hv2 with ⟨ad, cap, h3, h4⟩ | ⟨b, off, cap, h3, _, _⟩ <;> exact ⟨_, _, _, h3⟩
  obtain ⟨W, hW⟩ : ∃ W, ((w.alloc (.cells #[.int .i64 L1, .slice ad1 e1 cp1] 24)).alloc (.cells #[.int .i64 L2, .slice ad2 e2 cp2] 24)) = W := ⟨_, rfl⟩
  have k0 : Kept [] w W := by rw [← hW]; exact ((Kept.refl _ _).alloc _).alloc _
  have gA : W.heap[w.heap.size]? = some (.cells #[.int .i64 L1, .slice ad1 e1 cp1] 24 (0, 0)) := by
    rw [← hW]
    exact alloc_heap_old (heap_alloc_new w _) _
  have gB : W.heap[w.heap.size + 1]? = some (.cells #[.int .i64 L2, .slice ad2 e2 cp2] 24 (0, 0)) := by
    rw [← hW]
    have := heap_alloc_new (w.alloc (.cells #[.int .i64 L1, .slice ad1 e1 cp1] 24)) (.cells #[.int .i64 L2, .slice ad2 e2 cp2] 24)
    simpa using this
  have HW := Lib.hid hW; clear hW
  by_cases hm1 : e1 ≤ 2147483647
  · have hd1 : decide (e1 ≤ 2147483647) = true := by simpa using hm1
    by_cases hm2 : e2 ≤ 2147483647
    · have hd2 : decide (e2 ≤ 2147483647) = true := by simpa using hm2
      by_cases hg1 : Good L1 zs1
      · have hg2 : ¬ Good L2 zs2 := fun h => hb ⟨hg1, h⟩
        clear hb
        go_enter Try.func9, Try.ntmps9
        go_wp2_with fail
        rw [HW.out]
        refine (zz_c L1 ad1 e1 cp1 _).mono ?_
        rintro e w1 ⟨rfl, k1⟩
        rw [hd1]
        obtain ⟨c0, c1, _, _, _, _⟩ := box2 (k1.heap (by simp) gB) (.bool true) (.bool true)
        go_wp2_with fail
        refine (zz_c L2 ad2 e2 cp2 _).mono ?_
        rintro e w2 ⟨rfl, k2⟩
        rw [hd2]
        have k12 := k1.trans0 k2
        obtain ⟨a0, a1, _, _, _, _⟩ := box2 (k12.heap (by simp) gA) (.bool true) (.bool true)
        obtain ⟨b0, b1, _, _, _, _⟩ := box2 (k12.heap (by simp) gB) (.bool true) (.bool true)
        go_wp2_with fail
        refine (both_bad2 L1 L2 _ _ zs1 zs2 _ (hv1.kept (k0.trans0 k12)) (hv2.kept (k0.trans0 k12)) hlen1 hlen2 hL1 hR1 hL2 hR2 hg1 hg2).mono ?_
        rintro e w3 ⟨d1, m1, c1, t1, d2, m2, c2, t2, rfl, k3⟩
        go_wp2_with fail
        go_ret
        exact ⟨rfl, ((((k0.trans0 k12).trans0 k3).alloc _).alloc _)⟩
      · clear hb
        go_enter Try.func9, Try.ntmps9
        go_wp2_with fail
        rw [HW.out]
        refine (zz_c L1 ad1 e1 cp1 _).mono ?_
        rintro e w1 ⟨rfl, k1⟩
        rw [hd1]
        obtain ⟨c0, c1, _, _, _, _⟩ := box2 (k1.heap (by simp) gB) (.bool true) (.bool true)
        go_wp2_with fail
        refine (zz_c L2 ad2 e2 cp2 _).mono ?_
        rintro e w2 ⟨rfl, k2⟩
        rw [hd2]
        have k12 := k1.trans0 k2
        obtain ⟨a0, a1, _, _, _, _⟩ := box2 (k12.heap (by simp) gA) (.bool true) (.bool true)
        obtain ⟨b0, b1, _, _, _, _⟩ := box2 (k12.heap (by simp) gB) (.bool true) (.bool true)
        go_wp2_with fail
        refine (both_bad1 L1 L2 _ _ zs1 zs2 _ (hv1.kept (k0.trans0 k12)) (hv2.kept (k0.trans0 k12)) hlen1 hlen2 hL1 hR1 hL2 hR2 hg1).mono ?_
        rintro e w3 ⟨d1, m1, c1, t1, d2, m2, c2, t2, rfl, k3⟩
        go_wp2_with fail
        go_ret
        exact ⟨rfl, ((((k0.trans0 k12).trans0 k3).alloc _).alloc _)⟩
    · have hd2 : decide (e2 ≤ 2147483647) = false := by simpa using hm2
      clear hb
      go_enter Try.func9, Try.ntmps9
      go_wp2_with fail
      rw [HW.out]
      refine (zz_c L1 ad1 e1 cp1 _).mono ?_
      rintro e w1 ⟨rfl, k1⟩
      rw [hd1]
      obtain ⟨c0, c1, _, _, _, _⟩ := box2 (k1.heap (by simp) gB) (.bool true) (.bool true)
      go_wp2_with fail
      refine (zz_c L2 ad2 e2 cp2 _).mono ?_
      rintro e w2 ⟨rfl, k2⟩
      rw [hd2]
      have k12 := k1.trans0 k2
      obtain ⟨a0, a1, _, _, _, _⟩ := box2 (k12.heap (by simp) gA) (.bool true) (.bool true)
      obtain ⟨b0, b1, _, _, _, _⟩ := box2 (k12.heap (by simp) gB) (.bool true) (.bool true)
      go_wp2_with fail
      go_ret
      exact ⟨rfl, k0.trans0 k12⟩
  · have hd1 : decide (e1 ≤ 2147483647) = false := by simpa using hm1
    clear hb
    go_enter Try.func9, Try.ntmps9
    go_wp2_with fail
    rw [HW.out]
    refine (zz_c L1 ad1 e1 cp1 _).mono ?_
    rintro e w1 ⟨rfl, k1⟩
    rw [hd1]
    obtain ⟨c0, c1, _, _, _, _⟩ := box2 (k1.heap (by simp) gB) (.bool true) (.bool true)
    go_wp2_with fail
    go_ret
    exact ⟨rfl, k0.trans0 k1⟩

set_option maxHeartbeats 2000000 in
theorem fnStrictSuperSet_good (L1 L2 : Nat) (v1 v2 : Value) (on1 on2 : List Nat) (w : World) (hv1 : IntsAt w v1 on1) (hv2 : IntsAt w v2 on2) (hL1 : L1 ≤ 2000) (hL2 : L2 ≤ 2000) (hlen1 : on1.length ≤ 400) (hlen2 : on2.length ≤ 400) (hon1 : ∀ x ∈ on1, x < 2500) (hon2 : ∀ x ∈ on2, x < 2500) :
    Calls Try.prog 9 #[.agg #[.int .i64 L1, v1], .agg #[.int .i64 L2, v2]] w fun e w' => e = .returned (.bool true) ∧ Kept [] w w' := by
  have hn1 := lenOf_le L1 on1 2500 (by omega) hon1
  have hn2 := lenOf_le L2 on2 2500 (by omega) hon2
  obtain ⟨ad1, cp1, rfl⟩ := hv1.shape
  obtain ⟨ad2, cp2, rfl⟩ := hv2.shape
  have hd1 : decide (on1.length ≤ 2147483647) = true := by simp; omega
  have hd2 : decide (on2.length ≤ 2147483647) = true := by simp; omega
  obtain ⟨W, hW⟩ : ∃ W, ((w.alloc (.cells #[.int .i64 L1, .slice ad1 on1.length cp1] 24)).alloc (.cells #[.int .i64 L2, .slice ad2 on2.length cp2] 24)) = W := ⟨_, rfl⟩
  have k0 : Kept [] w W := by rw [← hW]; exact ((Kept.refl _ _).alloc _).alloc _
  have gA : W.heap[w.heap.size]? = some (.cells #[.int .i64 L1, .slice ad1 on1.length cp1] 24 (0, 0)) := by
    rw [← hW]
    exact alloc_heap_old (heap_alloc_new w _) _
  have gB : W.heap[w.heap.size + 1]? = some (.cells #[.int .i64 L2, .slice ad2 on2.length cp2] 24 (0, 0)) := by
    rw [← hW]
    have := heap_alloc_new (w.alloc (.cells #[.int .i64 L1, .slice ad1 on1.length cp1] 24)) (.cells #[.int .i64 L2, .slice ad2 on2.length cp2] 24)
    simpa using this
  have HW := Lib.hid hW; clear hW
  go_enter Try.func9, Try.ntmps9
  go_wp2_with fail
  rw [HW.out]
  refine (zz_c L1 ad1 on1.length cp1 _).mono ?_
  rintro e w1 ⟨rfl, k1⟩
  rw [hd1]
  obtain ⟨c0, c1, _, _, _, _⟩ := box2 (k1.heap (by simp) gB) (.bool true) (.bool true)
  go_wp2_with fail
  refine (zz_c L2 ad2 on2.length cp2 _).mono ?_
  rintro e w2 ⟨rfl, k2⟩
  rw [hd2]
  have k12 := k1.trans0 k2
  obtain ⟨a0, a1, _, _, _, _⟩ := box2 (k12.heap (by simp) gA) (.bool true) (.bool true)
  obtain ⟨b0, b1, _, _, _, _⟩ := box2 (k12.heap (by simp) gB) (.bool true) (.bool true)
  go_wp2_with fail
  refine (both_good L1 L2 _ _ on1 on2 _ (hv1.kept (k0.trans0 k12)) (hv2.kept (k0.trans0 k12)) hL1 hL2 hlen1 hlen2 hon1 hon2).mono ?_
  rintro e w3 ⟨s1, s2, rfl, hs1, hs2, k3⟩
  obtain ⟨x1, y1, rfl⟩ := hs1.shape
  obtain ⟨x2, y2, rfl⟩ := hs2.shape
  have k03 := (k0.trans0 k12).trans0 k3
  have fA := k3.heap (by simp) (k12.heap (by simp) gA)
  have fB := k3.heap (by simp) (k12.heap (by simp) gB)
  clear a0 a1 b0 b1 c0 c1 gA gB k1 k2 k12 k3
  obtain ⟨V, hV⟩ : ∃ V, ((w3.alloc (.cells #[.slice (some ⟨x1, 0, none⟩) (lenOf L1 on1) y1, .bool true] 28)).alloc (.cells #[.slice (some ⟨x2, 0, none⟩) (lenOf L2 on2) y2, .bool true] 28)) = V := ⟨_, rfl⟩
  have z3 : Kept [] w3 V := by rw [← hV]; exact ((Kept.refl _ _).alloc _).alloc _
  have gX : V.heap[w3.heap.size]? = some (.cells #[.slice (some ⟨x1, 0, none⟩) (lenOf L1 on1) y1, .bool true] 28 (0, 0)) := by
    rw [← hV]
    exact alloc_heap_old (heap_alloc_new w3 _) _
  have gY : V.heap[w3.heap.size + 1]? = some (.cells #[.slice (some ⟨x2, 0, none⟩) (lenOf L2 on2) y2, .bool true] 28 (0, 0)) := by
    rw [← hV]
    have := heap_alloc_new (w3.alloc (.cells #[.slice (some ⟨x1, 0, none⟩) (lenOf L1 on1) y1, .bool true] 28)) (.cells #[.slice (some ⟨x2, 0, none⟩) (lenOf L2 on2) y2, .bool true] 28)
    simpa using this
  have HV := Lib.hid hV; clear hV
  have fA := z3.heap (by simp) fA
  have fB := z3.heap (by simp) fB
  have hs1 := hs1.kept z3
  have hs2 := hs2.kept z3
  have hw1 := (hv1.kept k03).kept z3
  have hw2 := (hv2.kept k03).kept z3
  have kV := k03.trans0 z3
  clear z3
  obtain ⟨n1, hN1⟩ : ∃ n, lenOf L1 on1 = n := ⟨_, rfl⟩
  obtain ⟨n2, hN2⟩ : ∃ n, lenOf L2 on2 = n := ⟨_, rfl⟩
  rw [hN1] at hs1 gX HV hn1 ⊢
  rw [hN2] at hs2 gY HV hn2 ⊢
  have HN1 := Lib.hid hN1; have HN2 := Lib.hid hN2; clear hN1 hN2
  go_wp2_with fail
  rw [HV.out]
  refine (longer_c _ _ n1 n2 _ _ _ _ _).mono ?_
  rintro e U ⟨rfl, k4⟩
  have fA := k4.heap (by simp) fA
  have fB := k4.heap (by simp) fB
  have gX := k4.heap (by simp) gX
  have gY := k4.heap (by simp) gY
  have hs1 := hs1.kept k4
  have hs2 := hs2.kept k4
  have hw1 := hw1.kept k4
  have hw2 := hw2.kept k4
  have kV := kV.trans0 k4
  have A0 : ∀ w', Kept [] U w' → w'.cell? ⟨w.heap.size, 0, none⟩ = some (.int .i64 L1) := fun w' k => (cell_of_heap (k.heap (by simp) fA)).trans rfl
  have A1 : ∀ w', Kept [] U w' → w'.cell? ⟨w.heap.size, 1, none⟩ = some (.slice ad1 on1.length cp1) := fun w' k => (cell_of_heap (k.heap (by simp) fA)).trans rfl
  have B0 : ∀ w', Kept [] U w' → w'.cell? ⟨w.heap.size + 1, 0, none⟩ = some (.int .i64 L2) := fun w' k => (cell_of_heap (k.heap (by simp) fB)).trans rfl
  have B1 : ∀ w', Kept [] U w' → w'.cell? ⟨w.heap.size + 1, 1, none⟩ = some (.slice ad2 on2.length cp2) := fun w' k => (cell_of_heap (k.heap (by simp) fB)).trans rfl
  have X0 : ∀ w', Kept [] U w' → w'.cell? ⟨w3.heap.size, 0, none⟩ = some (.slice (some ⟨x1, 0, none⟩) n1 y1) := fun w' k => (cell_of_heap (k.heap (by simp) gX)).trans rfl
  have X1 : ∀ w', Kept [] U w' → w'.cell? ⟨w3.heap.size, 1, none⟩ = some (.bool true) := fun w' k => (cell_of_heap (k.heap (by simp) gX)).trans rfl
  have Y0 : ∀ w', Kept [] U w' → w'.cell? ⟨w3.heap.size + 1, 0, none⟩ = some (.slice (some ⟨x2, 0, none⟩) n2 y2) := fun w' k => (cell_of_heap (k.heap (by simp) gY)).trans rfl
  have Y1 : ∀ w', Kept [] U w' → w'.cell? ⟨w3.heap.size + 1, 1, none⟩ = some (.bool true) := fun w' k => (cell_of_heap (k.heap (by simp) gY)).trans rfl
  go_wp2_with fail
  obtain ⟨N, hN⟩ : ∃ N, max n1 n2 = N := ⟨_, rfl⟩
  have hN1 : n1 ≤ N ∧ n2 ≤ N ∧ N ≤ 2500 := by omega
  have hNe : n1 = n2 → N = n1 := by omega
  rw [hN]
  have HN := Lib.hid hN; clear hN
  have HNE := Lib.hid hNe; clear hNe
  have hst : Kept [] U U := Kept.refl _ _
  go_loopw [31, 8, 9] (fun v o q wr => ∃ k : Nat, k ≤ N ∧ v = .int .i64 k ∧ Kept [] U wr ∧ o = .bool (allB k (fun j => fAt n1 (memOf on1) ((j : Nat) : Int) || !fAt n2 (memOf on2) ((j : Nat) : Int))) ∧ q = .bool (allB k (fun j => fAt n1 (memOf on1) ((j : Nat) : Int) == fAt n2 (memOf on2) ((j : Nat) : Int)))) (fun v _ _ _ => N - (intOf v).toNat)
  case atStart => exact ⟨0, Nat.zero_le _, rfl, hst, rfl, rfl⟩
  case round =>
    obtain ⟨k, hk, rfl, q1, rfl, rfl⟩ := hrel
    by_cases hkm : k < N
    · obtain ⟨x, hx⟩ : ∃ x, fAt n1 (memOf on1) ((k : Nat) : Int) = x := ⟨_, rfl⟩
      obtain ⟨y, hy⟩ : ∃ y, fAt n2 (memOf on2) ((k : Nat) : Int) = y := ⟨_, rfl⟩
      have HX := Lib.hid hx; have HY := Lib.hid hy; clear hx hy
      obtain ⟨o, ho⟩ : ∃ o, allB k (fun j => fAt n1 (memOf on1) ((j : Nat) : Int) || !fAt n2 (memOf on2) ((j : Nat) : Int)) = o := ⟨_, rfl⟩
      obtain ⟨q, hq⟩ : ∃ q, allB k (fun j => fAt n1 (memOf on1) ((j : Nat) : Int) == fAt n2 (memOf on2) ((j : Nat) : Int)) = q := ⟨_, rfl⟩
      rw [ho, hq]
      have HO := Lib.hid ho; have HQ := Lib.hid hq; clear ho hq
      have p0 := X0 _ q1; have p1 := X1 _ q1; have r0 := Y0 _ q1; have r1 := Y1 _ q1
      cases q with
      | true =>
        cases o with
        | false =>
          go_wp2_with fail
          refine wp_region_held_drew (S := fun w' => Kept [] U w') (by kernel_rfl) q1.drew (fun hS => ?_)
          refine takeD 0 46 (v := ?_) rfl rfl (by kernel_rfl) (by kernel_rfl) (by kernel_rfl) (fun _ _ _ h => h) (Or.inl ⟨by kernel_rfl, ?_⟩) hS ?_
          rotate_left 1
          · (intro w' hw'; (try dsimp only at hw'); go_simp; try with_reducible rfl)
          simp only [List.setIfInBounds_toArray, List.set_cons_zero, List.set_cons_succ]
          refine takeD 1 47 (v := ?_) rfl rfl (by kernel_rfl) (by kernel_rfl) (by kernel_rfl) (fun _ _ _ h => h) (Or.inl ⟨by kernel_rfl, ?_⟩) hS ?_
          rotate_left 1
          · (intro w' hw'; (try dsimp only at hw'); go_simp; try with_reducible rfl)
          simp only [List.setIfInBounds_toArray, List.set_cons_zero, List.set_cons_succ]
          refine takeD 2 48 (v := ?_) rfl rfl (by kernel_rfl) (by kernel_rfl) (by kernel_rfl) (fun _ _ _ h => h) (Or.inl ⟨by kernel_rfl, ?_⟩) hS ?_
          rotate_left 1
          · (intro w' hw'; (try dsimp only at hw'); go_simp; try with_reducible rfl)
          simp only [List.setIfInBounds_toArray, List.set_cons_zero, List.set_cons_succ]
          refine takeD 3 49 (v := ?_) rfl rfl (by kernel_rfl) (by kernel_rfl) (by kernel_rfl) (fun _ _ _ h => h) (Or.inl ⟨by kernel_rfl, ?_⟩) hS ?_
          rotate_left 1
          · (intro w' hw'; (try dsimp only at hw'); go_simp; try with_reducible rfl)
          simp only [List.setIfInBounds_toArray, List.set_cons_zero, List.set_cons_succ]
          refine takeD 5 51 (v := ?_) rfl rfl (by kernel_rfl) (by kernel_rfl) (by kernel_rfl) (fun _ _ _ h => h) (Or.inl ⟨by kernel_rfl, ?_⟩) hS ?_
          rotate_left 1
          · (intro w' hw'; (try dsimp only at hw'); go_simp; try with_reducible rfl)
          simp only [List.setIfInBounds_toArray, List.set_cons_zero, List.set_cons_succ]
          refine takeD 6 52 (v := ?_) rfl rfl (by kernel_rfl) (by kernel_rfl) (by kernel_rfl) (fun _ _ _ h => h) (Or.inl ⟨by kernel_rfl, ?_⟩) hS ?_
          rotate_left 1
          · (intro w' hw'; (try dsimp only at hw'); go_simp; try with_reducible rfl)
          simp only [List.setIfInBounds_toArray, List.set_cons_zero, List.set_cons_succ]
          refine wpAnyH_ready (rs := [4]) (by kernel_rfl) (by simp) ?_
          refine AllReadyH.cons rfl (fun K hK => ?_) AllReadyH.nil
          go_simp
          refine (at_c _ n1 (memOf on1) true k _ (hs1.kept hS)).mono ?_
          rintro e wx ⟨rfl, kx⟩
          rw [HX.out]
          refine hK.out _ _ ?_ (fun hS1 => ?_)
          · exact hS.trans0 kx
          clear hK K
          (try simp only [Act.put, List.setIfInBounds_toArray, List.set_cons_zero, List.set_cons_succ])
          refine wpAnyH_ready (rs := [7]) (by kernel_rfl) (by simp) ?_
          refine AllReadyH.cons rfl (fun K hK => ?_) AllReadyH.nil
          go_simp
          refine (at_c _ n2 (memOf on2) true k _ (hs2.kept hS1)).mono ?_
          rintro e wy ⟨rfl, ky⟩
          rw [HY.out]
          refine hK.out _ _ ?_ (fun hS2 => ?_)
          · exact hS1.trans0 ky
          clear hK K
          (try simp only [Act.put, List.setIfInBounds_toArray, List.set_cons_zero, List.set_cons_succ])
          refine takeD 8 54 (v := ?_) rfl rfl (by kernel_rfl) (by kernel_rfl) (by kernel_rfl) (fun _ _ _ h => h) (Or.inl ⟨by kernel_rfl, ?_⟩) hS2 ?_
          rotate_left 1
          · (intro w' hw'; (try dsimp only at hw'); go_simp; try with_reducible rfl)
          simp only [List.setIfInBounds_toArray, List.set_cons_zero, List.set_cons_succ]
          refine takeD 9 55 (v := ?_) rfl rfl (by kernel_rfl) (by kernel_rfl) (by kernel_rfl) (fun _ _ _ h => h) (Or.inl ⟨by kernel_rfl, ?_⟩) hS2 ?_
          rotate_left 1
          · (intro w' hw'; (try dsimp only at hw'); go_simp; try with_reducible rfl)
          simp only [List.setIfInBounds_toArray, List.set_cons_zero, List.set_cons_succ]
          refine takeD 10 9 (v := ?_) rfl rfl (by kernel_rfl) (by kernel_rfl) (by kernel_rfl) (fun _ _ _ h => h) (Or.inl ⟨by kernel_rfl, ?_⟩) hS2 ?_
          rotate_left 1
          · (intro w' hw'; (try dsimp only at hw'); go_simp; try with_reducible rfl)
          simp only [List.setIfInBounds_toArray, List.set_cons_zero, List.set_cons_succ]
          refine wpAnyH_done (by kernel_rfl) ?_ _
          go_wp2_with fail
          go_roundw
          case rel => exact ⟨k + 1, by omega, by go_num, hS2, by rw [allB_succ, HO.out]; simp [HX.out, HY.out], by rw [allB_succ, HQ.out]; simp [HX.out, HY.out]⟩
          case measure => simp [intOf]; omega
        | true =>
          cases x with
          | true =>
            go_wp2_with fail
            refine (at_c _ n1 (memOf on1) true k _ (hs1.kept q1)).mono ?_
            rintro e w5 ⟨rfl, k5⟩
            rw [HX.out]
            have p0 := X0 _ (q1.trans0 k5); have p1 := X1 _ (q1.trans0 k5); have r0 := Y0 _ (q1.trans0 k5); have r1 := Y1 _ (q1.trans0 k5)
            go_wp2_with fail
            refine wp_region_held_drew (S := fun w' => Kept [] U w') (by kernel_rfl) (q1.trans0 k5).drew (fun hS => ?_)
            refine takeD 0 46 (v := ?_) rfl rfl (by kernel_rfl) (by kernel_rfl) (by kernel_rfl) (fun _ _ _ h => h) (Or.inl ⟨by kernel_rfl, ?_⟩) hS ?_
            rotate_left 1
            · (intro w' hw'; (try dsimp only at hw'); go_simp; try with_reducible rfl)
            simp only [List.setIfInBounds_toArray, List.set_cons_zero, List.set_cons_succ]
            refine takeD 1 47 (v := ?_) rfl rfl (by kernel_rfl) (by kernel_rfl) (by kernel_rfl) (fun _ _ _ h => h) (Or.inl ⟨by kernel_rfl, ?_⟩) hS ?_
            rotate_left 1
            · (intro w' hw'; (try dsimp only at hw'); go_simp; try with_reducible rfl)
            simp only [List.setIfInBounds_toArray, List.set_cons_zero, List.set_cons_succ]
            refine takeD 2 48 (v := ?_) rfl rfl (by kernel_rfl) (by kernel_rfl) (by kernel_rfl) (fun _ _ _ h => h) (Or.inl ⟨by kernel_rfl, ?_⟩) hS ?_
            rotate_left 1
            · (intro w' hw'; (try dsimp only at hw'); go_simp; try with_reducible rfl)
            simp only [List.setIfInBounds_toArray, List.set_cons_zero, List.set_cons_succ]
            refine takeD 3 49 (v := ?_) rfl rfl (by kernel_rfl) (by kernel_rfl) (by kernel_rfl) (fun _ _ _ h => h) (Or.inl ⟨by kernel_rfl, ?_⟩) hS ?_
            rotate_left 1
            · (intro w' hw'; (try dsimp only at hw'); go_simp; try with_reducible rfl)
            simp only [List.setIfInBounds_toArray, List.set_cons_zero, List.set_cons_succ]
            refine takeD 5 51 (v := ?_) rfl rfl (by kernel_rfl) (by kernel_rfl) (by kernel_rfl) (fun _ _ _ h => h) (Or.inl ⟨by kernel_rfl, ?_⟩) hS ?_
            rotate_left 1
            · (intro w' hw'; (try dsimp only at hw'); go_simp; try with_reducible rfl)
            simp only [List.setIfInBounds_toArray, List.set_cons_zero, List.set_cons_succ]
            refine takeD 6 52 (v := ?_) rfl rfl (by kernel_rfl) (by kernel_rfl) (by kernel_rfl) (fun _ _ _ h => h) (Or.inl ⟨by kernel_rfl, ?_⟩) hS ?_
            rotate_left 1
            · (intro w' hw'; (try dsimp only at hw'); go_simp; try with_reducible rfl)
            simp only [List.setIfInBounds_toArray, List.set_cons_zero, List.set_cons_succ]
            refine wpAnyH_ready (rs := [4]) (by kernel_rfl) (by simp) ?_
            refine AllReadyH.cons rfl (fun K hK => ?_) AllReadyH.nil
            go_simp
            refine (at_c _ n1 (memOf on1) true k _ (hs1.kept hS)).mono ?_
            rintro e wx ⟨rfl, kx⟩
            rw [HX.out]
            refine hK.out _ _ ?_ (fun hS1 => ?_)
            · exact hS.trans0 kx
            clear hK K
            (try simp only [Act.put, List.setIfInBounds_toArray, List.set_cons_zero, List.set_cons_succ])
            refine wpAnyH_ready (rs := [7]) (by kernel_rfl) (by simp) ?_
            refine AllReadyH.cons rfl (fun K hK => ?_) AllReadyH.nil
            go_simp
            refine (at_c _ n2 (memOf on2) true k _ (hs2.kept hS1)).mono ?_
            rintro e wy ⟨rfl, ky⟩
            rw [HY.out]
            refine hK.out _ _ ?_ (fun hS2 => ?_)
            · exact hS1.trans0 ky
            clear hK K
            (try simp only [Act.put, List.setIfInBounds_toArray, List.set_cons_zero, List.set_cons_succ])
            refine takeD 8 54 (v := ?_) rfl rfl (by kernel_rfl) (by kernel_rfl) (by kernel_rfl) (fun _ _ _ h => h) (Or.inl ⟨by kernel_rfl, ?_⟩) hS2 ?_
            rotate_left 1
            · (intro w' hw'; (try dsimp only at hw'); go_simp; try with_reducible rfl)
            simp only [List.setIfInBounds_toArray, List.set_cons_zero, List.set_cons_succ]
            refine takeD 9 55 (v := ?_) rfl rfl (by kernel_rfl) (by kernel_rfl) (by kernel_rfl) (fun _ _ _ h => h) (Or.inl ⟨by kernel_rfl, ?_⟩) hS2 ?_
            rotate_left 1
            · (intro w' hw'; (try dsimp only at hw'); go_simp; try with_reducible rfl)
            simp only [List.setIfInBounds_toArray, List.set_cons_zero, List.set_cons_succ]
            refine takeD 10 9 (v := ?_) rfl rfl (by kernel_rfl) (by kernel_rfl) (by kernel_rfl) (fun _ _ _ h => h) (Or.inl ⟨by kernel_rfl, ?_⟩) hS2 ?_
            rotate_left 1
            · (intro w' hw'; (try dsimp only at hw'); go_simp; try with_reducible rfl)
            simp only [List.setIfInBounds_toArray, List.set_cons_zero, List.set_cons_succ]
            refine wpAnyH_done (by kernel_rfl) ?_ _
            go_wp2_with fail
            go_roundw
            case rel => exact ⟨k + 1, by omega, by go_num, hS2, by rw [allB_succ, HO.out]; simp [HX.out, HY.out], by rw [allB_succ, HQ.out]; simp [HX.out, HY.out]⟩
            case measure => simp [intOf]; omega
          | false =>
            go_wp2_with fail
            refine (at_c _ n1 (memOf on1) true k _ (hs1.kept q1)).mono ?_
            rintro e w5 ⟨rfl, k5⟩
            rw [HX.out]
            have p0 := X0 _ (q1.trans0 k5); have p1 := X1 _ (q1.trans0 k5); have r0 := Y0 _ (q1.trans0 k5); have r1 := Y1 _ (q1.trans0 k5)
            go_wp2_with fail
            refine (at_c _ n2 (memOf on2) true k _ (hs2.kept (q1.trans0 k5))).mono ?_
            rintro e w6 ⟨rfl, k6⟩
            rw [HY.out]
            go_wp2_with fail
            refine wp_region_held_drew (S := fun w' => Kept [] U w') (by kernel_rfl) ((q1.trans0 k5).trans0 k6).drew (fun hS => ?_)
            refine takeD 0 46 (v := ?_) rfl rfl (by kernel_rfl) (by kernel_rfl) (by kernel_rfl) (fun _ _ _ h => h) (Or.inl ⟨by kernel_rfl, ?_⟩) hS ?_
            rotate_left 1
            · (intro w' hw'; (try dsimp only at hw'); go_simp; try with_reducible rfl)
            simp only [List.setIfInBounds_toArray, List.set_cons_zero, List.set_cons_succ]
            refine takeD 1 47 (v := ?_) rfl rfl (by kernel_rfl) (by kernel_rfl) (by kernel_rfl) (fun _ _ _ h => h) (Or.inl ⟨by kernel_rfl, ?_⟩) hS ?_
            rotate_left 1
            · (intro w' hw'; (try dsimp only at hw'); go_simp; try with_reducible rfl)
            simp only [List.setIfInBounds_toArray, List.set_cons_zero, List.set_cons_succ]
            refine takeD 2 48 (v := ?_) rfl rfl (by kernel_rfl) (by kernel_rfl) (by kernel_rfl) (fun _ _ _ h => h) (Or.inl ⟨by kernel_rfl, ?_⟩) hS ?_
            rotate_left 1
            · (intro w' hw'; (try dsimp only at hw'); go_simp; try with_reducible rfl)
            simp only [List.setIfInBounds_toArray, List.set_cons_zero, List.set_cons_succ]
            refine takeD 3 49 (v := ?_) rfl rfl (by kernel_rfl) (by kernel_rfl) (by kernel_rfl) (fun _ _ _ h => h) (Or.inl ⟨by kernel_rfl, ?_⟩) hS ?_
            rotate_left 1
            · (intro w' hw'; (try dsimp only at hw'); go_simp; try with_reducible rfl)
            simp only [List.setIfInBounds_toArray, List.set_cons_zero, List.set_cons_succ]
            refine takeD 5 51 (v := ?_) rfl rfl (by kernel_rfl) (by kernel_rfl) (by kernel_rfl) (fun _ _ _ h => h) (Or.inl ⟨by kernel_rfl, ?_⟩) hS ?_
            rotate_left 1
            · (intro w' hw'; (try dsimp only at hw'); go_simp; try with_reducible rfl)
            simp only [List.setIfInBounds_toArray, List.set_cons_zero, List.set_cons_succ]
            refine takeD 6 52 (v := ?_) rfl rfl (by kernel_rfl) (by kernel_rfl) (by kernel_rfl) (fun _ _ _ h => h) (Or.inl ⟨by kernel_rfl, ?_⟩) hS ?_
            rotate_left 1
            · (intro w' hw'; (try dsimp only at hw'); go_simp; try with_reducible rfl)
            simp only [List.setIfInBounds_toArray, List.set_cons_zero, List.set_cons_succ]
            refine wpAnyH_ready (rs := [4]) (by kernel_rfl) (by simp) ?_
            refine AllReadyH.cons rfl (fun K hK => ?_) AllReadyH.nil
            go_simp
            refine (at_c _ n1 (memOf on1) true k _ (hs1.kept hS)).mono ?_
            rintro e wx ⟨rfl, kx⟩
            rw [HX.out]
            refine hK.out _ _ ?_ (fun hS1 => ?_)
            · exact hS.trans0 kx
            clear hK K
            (try simp only [Act.put, List.setIfInBounds_toArray, List.set_cons_zero, List.set_cons_succ])
            refine wpAnyH_ready (rs := [7]) (by kernel_rfl) (by simp) ?_
            refine AllReadyH.cons rfl (fun K hK => ?_) AllReadyH.nil
            go_simp
            refine (at_c _ n2 (memOf on2) true k _ (hs2.kept hS1)).mono ?_
            rintro e wy ⟨rfl, ky⟩
            rw [HY.out]
            refine hK.out _ _ ?_ (fun hS2 => ?_)
            · exact hS1.trans0 ky
            clear hK K
            (try simp only [Act.put, List.setIfInBounds_toArray, List.set_cons_zero, List.set_cons_succ])
            refine takeD 8 54 (v := ?_) rfl rfl (by kernel_rfl) (by kernel_rfl) (by kernel_rfl) (fun _ _ _ h => h) (Or.inl ⟨by kernel_rfl, ?_⟩) hS2 ?_
            rotate_left 1
            · (intro w' hw'; (try dsimp only at hw'); go_simp; try with_reducible rfl)
            simp only [List.setIfInBounds_toArray, List.set_cons_zero, List.set_cons_succ]
            refine takeD 9 55 (v := ?_) rfl rfl (by kernel_rfl) (by kernel_rfl) (by kernel_rfl) (fun _ _ _ h => h) (Or.inl ⟨by kernel_rfl, ?_⟩) hS2 ?_
            rotate_left 1
            · (intro w' hw'; (try dsimp only at hw'); go_simp; try with_reducible rfl)
            simp only [List.setIfInBounds_toArray, List.set_cons_zero, List.set_cons_succ]
            refine takeD 10 9 (v := ?_) rfl rfl (by kernel_rfl) (by kernel_rfl) (by kernel_rfl) (fun _ _ _ h => h) (Or.inl ⟨by kernel_rfl, ?_⟩) hS2 ?_
            rotate_left 1
            · (intro w' hw'; (try dsimp only at hw'); go_simp; try with_reducible rfl)
            simp only [List.setIfInBounds_toArray, List.set_cons_zero, List.set_cons_succ]
            refine wpAnyH_done (by kernel_rfl) ?_ _
            go_wp2_with fail
            go_roundw
            case rel => exact ⟨k + 1, by omega, by go_num, hS2, by rw [allB_succ, HO.out]; simp [HX.out, HY.out], by rw [allB_succ, HQ.out]; simp [HX.out, HY.out]⟩
            case measure => simp [intOf]; omega
      | false =>
        cases o with
        | false =>
          go_wp2_with fail
          refine wp_region_held_drew (S := fun w' => Kept [] U w') (by kernel_rfl) q1.drew (fun hS => ?_)
          refine takeD 0 46 (v := ?_) rfl rfl (by kernel_rfl) (by kernel_rfl) (by kernel_rfl) (fun _ _ _ h => h) (Or.inl ⟨by kernel_rfl, ?_⟩) hS ?_
          rotate_left 1
          · (intro w' hw'; (try dsimp only at hw'); go_simp; try with_reducible rfl)
          simp only [List.setIfInBounds_toArray, List.set_cons_zero, List.set_cons_succ]
          refine takeD 1 47 (v := ?_) rfl rfl (by kernel_rfl) (by kernel_rfl) (by kernel_rfl) (fun _ _ _ h => h) (Or.inl ⟨by kernel_rfl, ?_⟩) hS ?_
          rotate_left 1
          · (intro w' hw'; (try dsimp only at hw'); go_simp; try with_reducible rfl)
          simp only [List.setIfInBounds_toArray, List.set_cons_zero, List.set_cons_succ]
          refine takeD 2 48 (v := undef) rfl rfl (by kernel_rfl) (by kernel_rfl) (by kernel_rfl) (fun _ _ _ h => h) (Or.inr ⟨by kernel_rfl, rfl⟩) hS ?_
          simp only [List.setIfInBounds_toArray, List.set_cons_zero, List.set_cons_succ]
          refine takeD 3 49 (v := undef) rfl rfl (by kernel_rfl) (by kernel_rfl) (by kernel_rfl) (fun _ _ _ h => h) (Or.inr ⟨by kernel_rfl, rfl⟩) hS ?_
          simp only [List.setIfInBounds_toArray, List.set_cons_zero, List.set_cons_succ]
          refine takeD 4 50 (v := undef) rfl rfl (by kernel_rfl) (by kernel_rfl) (by kernel_rfl) (fun _ _ _ h => h) (Or.inr ⟨by kernel_rfl, rfl⟩) hS ?_
          simp only [List.setIfInBounds_toArray, List.set_cons_zero, List.set_cons_succ]
          refine takeD 5 51 (v := undef) rfl rfl (by kernel_rfl) (by kernel_rfl) (by kernel_rfl) (fun _ _ _ h => h) (Or.inr ⟨by kernel_rfl, rfl⟩) hS ?_
          simp only [List.setIfInBounds_toArray, List.set_cons_zero, List.set_cons_succ]
          refine takeD 6 52 (v := undef) rfl rfl (by kernel_rfl) (by kernel_rfl) (by kernel_rfl) (fun _ _ _ h => h) (Or.inr ⟨by kernel_rfl, rfl⟩) hS ?_
          simp only [List.setIfInBounds_toArray, List.set_cons_zero, List.set_cons_succ]
          refine takeD 7 53 (v := undef) rfl rfl (by kernel_rfl) (by kernel_rfl) (by kernel_rfl) (fun _ _ _ h => h) (Or.inr ⟨by kernel_rfl, rfl⟩) hS ?_
          simp only [List.setIfInBounds_toArray, List.set_cons_zero, List.set_cons_succ]
          refine takeD 8 54 (v := undef) rfl rfl (by kernel_rfl) (by kernel_rfl) (by kernel_rfl) (fun _ _ _ h => h) (Or.inr ⟨by kernel_rfl, rfl⟩) hS ?_
          simp only [List.setIfInBounds_toArray, List.set_cons_zero, List.set_cons_succ]
          refine takeD 9 55 (v := ?_) rfl rfl (by kernel_rfl) (by kernel_rfl) (by kernel_rfl) (fun _ _ _ h => h) (Or.inl ⟨by kernel_rfl, ?_⟩) hS ?_
          rotate_left 1
          · (intro w' hw'; (try dsimp only at hw'); go_simp; try with_reducible rfl)
          simp only [List.setIfInBounds_toArray, List.set_cons_zero, List.set_cons_succ]
          refine takeD 10 9 (v := ?_) rfl rfl (by kernel_rfl) (by kernel_rfl) (by kernel_rfl) (fun _ _ _ h => h) (Or.inl ⟨by kernel_rfl, ?_⟩) hS ?_
          rotate_left 1
          · (intro w' hw'; (try dsimp only at hw'); go_simp; try with_reducible rfl)
          simp only [List.setIfInBounds_toArray, List.set_cons_zero, List.set_cons_succ]
          refine wpAnyH_done (by kernel_rfl) ?_ _
          go_wp2_with fail
          go_roundw
          case rel => exact ⟨k + 1, by omega, by go_num, hS, by rw [allB_succ, HO.out]; simp [HX.out, HY.out], by rw [allB_succ, HQ.out]; simp [HX.out, HY.out]⟩
          case measure => simp [intOf]; omega
        | true =>
          cases x with
          | true =>
            go_wp2_with fail
            refine (at_c _ n1 (memOf on1) true k _ (hs1.kept q1)).mono ?_
            rintro e w5 ⟨rfl, k5⟩
            rw [HX.out]
            have p0 := X0 _ (q1.trans0 k5); have p1 := X1 _ (q1.trans0 k5); have r0 := Y0 _ (q1.trans0 k5); have r1 := Y1 _ (q1.trans0 k5)
            go_wp2_with fail
            refine wp_region_held_drew (S := fun w' => Kept [] U w') (by kernel_rfl) (q1.trans0 k5).drew (fun hS => ?_)
            refine takeD 0 46 (v := ?_) rfl rfl (by kernel_rfl) (by kernel_rfl) (by kernel_rfl) (fun _ _ _ h => h) (Or.inl ⟨by kernel_rfl, ?_⟩) hS ?_
            rotate_left 1
            · (intro w' hw'; (try dsimp only at hw'); go_simp; try with_reducible rfl)
            simp only [List.setIfInBounds_toArray, List.set_cons_zero, List.set_cons_succ]
            refine takeD 1 47 (v := ?_) rfl rfl (by kernel_rfl) (by kernel_rfl) (by kernel_rfl) (fun _ _ _ h => h) (Or.inl ⟨by kernel_rfl, ?_⟩) hS ?_
            rotate_left 1
            · (intro w' hw'; (try dsimp only at hw'); go_simp; try with_reducible rfl)
            simp only [List.setIfInBounds_toArray, List.set_cons_zero, List.set_cons_succ]
            refine takeD 2 48 (v := undef) rfl rfl (by kernel_rfl) (by kernel_rfl) (by kernel_rfl) (fun _ _ _ h => h) (Or.inr ⟨by kernel_rfl, rfl⟩) hS ?_
            simp only [List.setIfInBounds_toArray, List.set_cons_zero, List.set_cons_succ]
            refine takeD 3 49 (v := undef) rfl rfl (by kernel_rfl) (by kernel_rfl) (by kernel_rfl) (fun _ _ _ h => h) (Or.inr ⟨by kernel_rfl, rfl⟩) hS ?_
            simp only [List.setIfInBounds_toArray, List.set_cons_zero, List.set_cons_succ]
            refine takeD 4 50 (v := undef) rfl rfl (by kernel_rfl) (by kernel_rfl) (by kernel_rfl) (fun _ _ _ h => h) (Or.inr ⟨by kernel_rfl, rfl⟩) hS ?_
            simp only [List.setIfInBounds_toArray, List.set_cons_zero, List.set_cons_succ]
            refine takeD 5 51 (v := undef) rfl rfl (by kernel_rfl) (by kernel_rfl) (by kernel_rfl) (fun _ _ _ h => h) (Or.inr ⟨by kernel_rfl, rfl⟩) hS ?_
            simp only [List.setIfInBounds_toArray, List.set_cons_zero, List.set_cons_succ]
            refine takeD 6 52 (v := undef) rfl rfl (by kernel_rfl) (by kernel_rfl) (by kernel_rfl) (fun _ _ _ h => h) (Or.inr ⟨by kernel_rfl, rfl⟩) hS ?_
            simp only [List.setIfInBounds_toArray, List.set_cons_zero, List.set_cons_succ]
            refine takeD 7 53 (v := undef) rfl rfl (by kernel_rfl) (by kernel_rfl) (by kernel_rfl) (fun _ _ _ h => h) (Or.inr ⟨by kernel_rfl, rfl⟩) hS ?_
            simp only [List.setIfInBounds_toArray, List.set_cons_zero, List.set_cons_succ]
            refine takeD 8 54 (v := undef) rfl rfl (by kernel_rfl) (by kernel_rfl) (by kernel_rfl) (fun _ _ _ h => h) (Or.inr ⟨by kernel_rfl, rfl⟩) hS ?_
            simp only [List.setIfInBounds_toArray, List.set_cons_zero, List.set_cons_succ]
            refine takeD 9 55 (v := ?_) rfl rfl (by kernel_rfl) (by kernel_rfl) (by kernel_rfl) (fun _ _ _ h => h) (Or.inl ⟨by kernel_rfl, ?_⟩) hS ?_
            rotate_left 1
            · (intro w' hw'; (try dsimp only at hw'); go_simp; try with_reducible rfl)
            simp only [List.setIfInBounds_toArray, List.set_cons_zero, List.set_cons_succ]
            refine takeD 10 9 (v := ?_) rfl rfl (by kernel_rfl) (by kernel_rfl) (by kernel_rfl) (fun _ _ _ h => h) (Or.inl ⟨by kernel_rfl, ?_⟩) hS ?_
            rotate_left 1
            · (intro w' hw'; (try dsimp only at hw'); go_simp; try with_reducible rfl)
            simp only [List.setIfInBounds_toArray, List.set_cons_zero, List.set_cons_succ]
            refine wpAnyH_done (by kernel_rfl) ?_ _
            go_wp2_with fail
            go_roundw
            case rel => exact ⟨k + 1, by omega, by go_num, hS, by rw [allB_succ, HO.out]; simp [HX.out, HY.out], by rw [allB_succ, HQ.out]; simp [HX.out, HY.out]⟩
            case measure => simp [intOf]; omega
          | false =>
            go_wp2_with fail
            refine (at_c _ n1 (memOf on1) true k _ (hs1.kept q1)).mono ?_
            rintro e w5 ⟨rfl, k5⟩
            rw [HX.out]
            have p0 := X0 _ (q1.trans0 k5); have p1 := X1 _ (q1.trans0 k5); have r0 := Y0 _ (q1.trans0 k5); have r1 := Y1 _ (q1.trans0 k5)
            go_wp2_with fail
            refine (at_c _ n2 (memOf on2) true k _ (hs2.kept (q1.trans0 k5))).mono ?_
            rintro e w6 ⟨rfl, k6⟩
            rw [HY.out]
            go_wp2_with fail
            refine wp_region_held_drew (S := fun w' => Kept [] U w') (by kernel_rfl) ((q1.trans0 k5).trans0 k6).drew (fun hS => ?_)
            refine takeD 0 46 (v := ?_) rfl rfl (by kernel_rfl) (by kernel_rfl) (by kernel_rfl) (fun _ _ _ h => h) (Or.inl ⟨by kernel_rfl, ?_⟩) hS ?_
            rotate_left 1
            · (intro w' hw'; (try dsimp only at hw'); go_simp; try with_reducible rfl)
            simp only [List.setIfInBounds_toArray, List.set_cons_zero, List.set_cons_succ]
            refine takeD 1 47 (v := ?_) rfl rfl (by kernel_rfl) (by kernel_rfl) (by kernel_rfl) (fun _ _ _ h => h) (Or.inl ⟨by kernel_rfl, ?_⟩) hS ?_
            rotate_left 1
            · (intro w' hw'; (try dsimp only at hw'); go_simp; try with_reducible rfl)
            simp only [List.setIfInBounds_toArray, List.set_cons_zero, List.set_cons_succ]
            refine takeD 2 48 (v := undef) rfl rfl (by kernel_rfl) (by kernel_rfl) (by kernel_rfl) (fun _ _ _ h => h) (Or.inr ⟨by kernel_rfl, rfl⟩) hS ?_
            simp only [List.setIfInBounds_toArray, List.set_cons_zero, List.set_cons_succ]
            refine takeD 3 49 (v := undef) rfl rfl (by kernel_rfl) (by kernel_rfl) (by kernel_rfl) (fun _ _ _ h => h) (Or.inr ⟨by kernel_rfl, rfl⟩) hS ?_
            simp only [List.setIfInBounds_toArray, List.set_cons_zero, List.set_cons_succ]
            refine takeD 4 50 (v := undef) rfl rfl (by kernel_rfl) (by kernel_rfl) (by kernel_rfl) (fun _ _ _ h => h) (Or.inr ⟨by kernel_rfl, rfl⟩) hS ?_
            simp only [List.setIfInBounds_toArray, List.set_cons_zero, List.set_cons_succ]
            refine takeD 5 51 (v := undef) rfl rfl (by kernel_rfl) (by kernel_rfl) (by kernel_rfl) (fun _ _ _ h => h) (Or.inr ⟨by kernel_rfl, rfl⟩) hS ?_
            simp only [List.setIfInBounds_toArray, List.set_cons_zero, List.set_cons_succ]
            refine takeD 6 52 (v := undef) rfl rfl (by kernel_rfl) (by kernel_rfl) (by kernel_rfl) (fun _ _ _ h => h) (Or.inr ⟨by kernel_rfl, rfl⟩) hS ?_
            simp only [List.setIfInBounds_toArray, List.set_cons_zero, List.set_cons_succ]
            refine takeD 7 53 (v := undef) rfl rfl (by kernel_rfl) (by kernel_rfl) (by kernel_rfl) (fun _ _ _ h => h) (Or.inr ⟨by kernel_rfl, rfl⟩) hS ?_
            simp only [List.setIfInBounds_toArray, List.set_cons_zero, List.set_cons_succ]
            refine takeD 8 54 (v := undef) rfl rfl (by kernel_rfl) (by kernel_rfl) (by kernel_rfl) (fun _ _ _ h => h) (Or.inr ⟨by kernel_rfl, rfl⟩) hS ?_
            simp only [List.setIfInBounds_toArray, List.set_cons_zero, List.set_cons_succ]
            refine takeD 9 55 (v := ?_) rfl rfl (by kernel_rfl) (by kernel_rfl) (by kernel_rfl) (fun _ _ _ h => h) (Or.inl ⟨by kernel_rfl, ?_⟩) hS ?_
            rotate_left 1
            · (intro w' hw'; (try dsimp only at hw'); go_simp; try with_reducible rfl)
            simp only [List.setIfInBounds_toArray, List.set_cons_zero, List.set_cons_succ]
            refine takeD 10 9 (v := ?_) rfl rfl (by kernel_rfl) (by kernel_rfl) (by kernel_rfl) (fun _ _ _ h => h) (Or.inl ⟨by kernel_rfl, ?_⟩) hS ?_
            rotate_left 1
            · (intro w' hw'; (try dsimp only at hw'); go_simp; try with_reducible rfl)
            simp only [List.setIfInBounds_toArray, List.set_cons_zero, List.set_cons_succ]
            refine wpAnyH_done (by kernel_rfl) ?_ _
            go_wp2_with fail
            go_roundw
            case rel => exact ⟨k + 1, by omega, by go_num, hS, by rw [allB_succ, HO.out]; simp [HX.out, HY.out], by rw [allB_succ, HQ.out]; simp [HX.out, HY.out]⟩
            case measure => simp [intOf]; omega
    · have hkn : k = N := by omega
      subst hkn
      have hNm : max n1 n2 = k := HN.out
      have hs : allB (max (lenOf L1 on1) (lenOf L2 on2)) (fun j => (decide (j < lenOf L1 on1) && memOf on1 j) || !(decide (j < lenOf L2 on2) && memOf on2 j)) = allB k (fun j => fAt n1 (memOf on1) ((j : Nat) : Int) || !fAt n2 (memOf on2) ((j : Nat) : Int)) := by
        rw [HN1.out, HN2.out, hNm]
        exact allB_congr _ _ _ fun j _ => by rw [fAt_nat, fAt_nat]
      obtain ⟨ov, hov⟩ : ∃ o, allB k (fun j => fAt n1 (memOf on1) ((j : Nat) : Int) || !fAt n2 (memOf on2) ((j : Nat) : Int)) = o := ⟨_, rfl⟩
      obtain ⟨ev, hev⟩ : ∃ o, allB k (fun j => fAt n1 (memOf on1) ((j : Nat) : Int) == fAt n2 (memOf on2) ((j : Nat) : Int)) = o := ⟨_, rfl⟩
      have hoe : ev = true → ov = true := fun h => by
        rw [← hov]
        rw [← hev] at h
        refine (allB_iff _ _).2 fun j hj => ?_
        have := (allB_iff _ _).1 h j hj
        simp only [beq_iff_eq] at this
        rw [this]
        cases fAt n2 (memOf on2) ((j : Nat) : Int) <;> rfl
      have hR : (decide ((onL (lenOf L2 on2) (memOf on2)).length < (onL (lenOf L1 on1) (memOf on1)).length) && allB (max (lenOf L1 on1) (lenOf L2 on2)) (fun j => (decide (j < lenOf L1 on1) && memOf on1 j) || !(decide (j < lenOf L2 on2) && memOf on2 j))) = (ov && !ev) := by
        rw [hs, hov]
        have e1 : onL (lenOf L1 on1) (memOf on1) = onL k (fun j => fAt n1 (memOf on1) ((j : Nat) : Int)) := by
          rw [HN1.out]
          exact onL_both _ _ _ _ fun j => by
            rw [fAt_nat]
            by_cases hj : j < n1
            · rw [decide_eq_true hj, decide_eq_true (show j < k by omega)]; simp
            · rw [decide_eq_false hj]; simp
        have e2 : onL (lenOf L2 on2) (memOf on2) = onL k (fun j => fAt n2 (memOf on2) ((j : Nat) : Int)) := by
          rw [HN2.out]
          exact onL_both _ _ _ _ fun j => by
            rw [fAt_nat]
            by_cases hj : j < n2
            · rw [decide_eq_true hj, decide_eq_true (show j < k by omega)]; simp
            · rw [decide_eq_false hj]; simp
        rw [e1, e2]
        cases ov with
        | false => simp
        | true =>
          have hsub := (allB_iff _ _).1 hov
          have hsub2 : ∀ j, j < k → fAt n2 (memOf on2) ((j : Nat) : Int) = true → fAt n1 (memOf on1) ((j : Nat) : Int) = true := fun j hj h => by
            have := hsub j hj
            rw [h] at this
            simpa using this
          cases ev with
          | true =>
            have heq := (allB_iff _ _).1 hev
            rw [onL_congr k (fun j => fAt n1 (memOf on1) ((j : Nat) : Int)) (fun j => fAt n2 (memOf on2) ((j : Nat) : Int)) (fun j hj => by have := heq j hj; simpa using this)]
            simp
          | false =>
            have hex : ∃ j, j < k ∧ fAt n1 (memOf on1) ((j : Nat) : Int) = true ∧ fAt n2 (memOf on2) ((j : Nat) : Int) = false := Classical.byContradiction fun hno => by
              have : allB k (fun j => fAt n1 (memOf on1) ((j : Nat) : Int) == fAt n2 (memOf on2) ((j : Nat) : Int)) = true := (allB_iff _ _).2 fun j hj => by
                have h2 := hsub2 j hj
                cases ha : fAt n1 (memOf on1) ((j : Nat) : Int) with
                | true =>
                  cases hb : fAt n2 (memOf on2) ((j : Nat) : Int) with
                  | true => rfl
                  | false => exact absurd ⟨j, hj, ha, hb⟩ hno
                | false =>
                  cases hb : fAt n2 (memOf on2) ((j : Nat) : Int) with
                  | true => rw [h2 hb] at ha; cases ha
                  | false => rfl
              rw [this] at hev; cases hev
            obtain ⟨j, hj, ha, hb⟩ := hex
            have := cnt_lt k j _ _ hsub2 hj ha hb
            rw [decide_eq_true this]; rfl
      rw [hov, hev]
      have HR := Lib.hid hR; have HOE := Lib.hid hoe
      clear hR hoe hov hev hs
      have a0 := A0 _ q1; have a1 := A1 _ q1; have b0 := B0 _ q1; have b1 := B1 _ q1
      go_wp2_with fail
      refine (implIsStrictSuperSet_c L1 L2 _ _ on1 on2 _ (hw1.kept q1) (hw2.kept q1) (by omega) (by omega) (by omega) (by omega) (fun x hx => by have := hon1 x hx; omega) (fun x hx => by have := hon2 x hx; omega)).mono ?_
      rintro e w5 ⟨rfl, k5⟩
      rw [HR.out]
      cases ev with
      | true =>
        obtain rfl := HOE.out rfl
        go_wp2_with fail
        go_ret
        exact ⟨by simp, kV.trans0 (q1.trans0 k5)⟩
      | false =>
        cases ov with
        | true =>
          go_wp2_with fail
          go_ret
          exact ⟨by simp, kV.trans0 (q1.trans0 k5)⟩
        | false =>
          go_wp2_with fail
          go_ret
          exact ⟨by simp, kV.trans0 (q1.trans0 k5)⟩

theorem fnStrictSuperSet_c (L1 L2 : Int) (v1 v2 : Value) (zs1 zs2 : List Int) (w : World) (hv1 : IntsZ w v1 zs1) (hv2 : IntsZ w v2 zs2) (hlen1 : zs1.length ≤ 9223372036854775807) (hlen2 : zs2.length ≤ 9223372036854775807)
    (hL1 : -9223372036854775808 ≤ L1) (hR1 : L1 ≤ 9223372036854775807) (hL2 : -9223372036854775808 ≤ L2) (hR2 : L2 ≤ 9223372036854775807) :
    Calls Try.prog 9 #[.agg #[.int .i64 L1, v1], .agg #[.int .i64 L2, v2]] w fun e w' => e = .returned (.bool true) ∧ Kept [] w w' := by
  by_cases hg : Good L1 zs1 ∧ Good L2 zs2
  · obtain ⟨n1, on1, rfl, q1, q2, q3, q4⟩ := hv1.good hg.1
    obtain ⟨n2, on2, rfl, p1, p2, p3, p4⟩ := hv2.good hg.2
    exact fnStrictSuperSet_good n1 n2 v1 v2 on1 on2 w q4 p4 q1 p1 q2 p2 q3 p3
  · exact fnStrictSuperSet_bad L1 L2 v1 v2 zs1 zs2 w hv1 hv2 hlen1 hlen2 hL1 hR1 hL2 hR2 hg

open Go.ChangeShapes Go.WideShapes Go.ChangeAt Go.Joins

set_option maxRecDepth 100000 in
theorem fnStrictSuperSet_lifted (os : Os) (started : os.Started) (H : Type) (enc : TypeId × Value → H) :
    ReturnsInHanded {} Try.checked os 9 .any (Rows.fnStrictSuperSetSpec.pre6 enc Try.prog Try.f9 Rows.fnStrictSuperSetRow.domain false) (Rows.fnStrictSuperSetSpec.post enc Try.prog Try.f9 false true false false) := by
  refine returnsInHanded_of_change (C := Try.checked) Try.own started (by kernel_rfl) Try.func9
    (ChangeSpec.witness6 (enc := enc) (C := Try.checked) false ⟨#[], #[.agg #[.int .i64 0, .slice none 0 0], .agg #[.int .i64 0, .slice none 0 0]], []⟩ 8 (by kernel_rfl) (by kernel_rfl) (by kernel_rfl) (by kernel_rfl)) ?_
  intro W base args ds gs before hval0 hW _ _
  have hval : ∀ (j : Nat) t v, Try.f9.params[j]? = some t → args[j]? = some v → Value.okWide Try.prog W .any base t v := hval0
  have hW' := hW
  obtain ⟨p, q, hA0, hV, rfl, _, _⟩ := hW
  have hA : DataW.TrodAll enc Try.prog W 0 (fun _ => true) true Try.f9.params.toList args.toList ds p := hA0
  rw [Try.params9] at hA hval
  obtain ⟨v0, v1, d0, d1, p0, p1, rfl, rfl, rfl, h0, h1⟩ := trodAll_two hA
  obtain ⟨rfl, rfl⟩ := trodVars_none hV
  obtain ⟨L1, s1, zs1, rfl, hz1, hlen1, hL1, hR1⟩ := bits_read (hval 1 24 v1 rfl rfl) h1
  obtain ⟨L0, s0, zs0, rfl, hz0, hlen0, hL0, hR0⟩ := bits_read (hval 0 24 v0 rfl rfl) h0
  clear hA0 hval0
  simp only [List.append_nil] at hW'
  have hlt0 : ∀ x ∈ p0, x.block < W.heap.size := fun x hx => by simpa using hW'.lt x (by simp [hx])
  have hlt1 : ∀ x ∈ p1, x.block < W.heap.size := fun x hx => by simpa using hW'.lt x (by simp [hx])
  refine (fnStrictSuperSet_c L0 L1 s0 s1 zs0 zs1 W hz0 hz1 hlen0 hlen1 hL0 hR0 hL1 hR1).mono fun e W' ⟨he, hk⟩ => ?_
  subst he
  have hb := hk.below
  refine ⟨_, rfl, _, _, _, [], p0 ++ p1, [], hW', ?_, ?_, rfl, hb.frame _, fun h => by cases h⟩
  · exact trodAll_mk1 (shut_bool Try.underlying4 true)
  · exact trodAll_mk2 (Below.trod Try.laidOut (by kernel_rfl) (of_decide_eq_true (by kernel_rfl)) h0 hb hlt0) (Below.trod Try.laidOut (by kernel_rfl) (of_decide_eq_true (by kernel_rfl)) h1 hb hlt1)

theorem fnStrictSuperSet_holds : Rows.FnStrictSuperSetSaid :=
  OpenClaim.holds_of_wide 9 Try.f9 rfl rfl rfl rfl rfl rfl rfl ⟨rfl, rfl, rfl, rfl, rfl⟩ rfl rfl rfl rfl rfl (by kernel_rfl) Try.func9 (by kernel_rfl)
    (of_decide_eq_true (by kernel_rfl)) (by unfold Func.isWrapper; first | (rw [if_pos (by decide +kernel)]; kernel_rfl) | (rw [if_neg (by decide +kernel)]; exact ⟨rfl, rfl⟩))
    (fun os started H enc _ => fnStrictSuperSet_lifted os started H enc)

end Go.Proofs.Ytdngkdidelogbaa

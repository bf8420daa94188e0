/-
  laws.FnAny: for every input.
-/
import Derived.Test.YtdngkdidelogbaaIAny
import Derived.Test.YtdngkdidelogbaaRow
namespace Go.Proofs.Ytdngkdidelogbaa
set_option linter.unusedSimpArgs false
set_option linter.unusedVariables false
open Go.RowKit

set_option maxHeartbeats 1000000 in
set_option linter.unusedVariables false in
theorem fnAny_bad (L : Int) (v : Value) (zs : List Int) (w : World) (hv : IntsZ w v zs) (hlen : zs.length ≤ 9223372036854775807) (hL : -9223372036854775808 ≤ L) (hL2 : L ≤ 9223372036854775807) (hb : ¬ (Good L zs)) :
    Calls Try.prog 10 #[.agg #[.int .i64 L, v]] w fun e w' => e = .returned (.bool true) ∧ Kept [] w w' := by
  have k0 : Kept [] w (w.alloc (.cells #[.int .i64 L, v] 24)) := (Kept.refl _ _).alloc _
  have g0 : (w.alloc (.cells #[.int .i64 L, v] 24)).heap[w.heap.size]? = some (.cells #[.int .i64 L, v] 24 (0, 0)) := heap_alloc_new w _
  obtain ⟨ad, m, cap, rfl⟩ : ∃ ad m cap, v = .slice ad m cap := by
    rcases hv with ⟨ad, cap, h3, h4⟩ | ⟨b, off, cap, h3, _, _⟩ <;> exact ⟨_, _, _, h3⟩
  by_cases hm : m ≤ 2147483647
  · have hd : decide (m ≤ 2147483647) = true := by simpa using hm
    by_cases hg : Good L zs
    · exact absurd hg hb
    · clear hb
      go_enter Try.func10, Try.ntmps10
      go_wp2_with fail
      refine (zz_c L ad m cap _).mono ?_
      rintro e w1 ⟨rfl, k1⟩
      have c0 : w1.cell? ⟨w.heap.size, 0, none⟩ = some (.int .i64 L) := (cell_of_heap (k1.heap (by simp) g0)).trans rfl
      have c1 : w1.cell? ⟨w.heap.size, 1, none⟩ = some (.slice ad m cap) := (cell_of_heap (k1.heap (by simp) g0)).trans rfl
      rw [hd]
      go_wp2_with fail
      refine (setBad_c L _ zs _ (hv.kept (k0.trans0 k1)) hg hlen hL hL2).mono ?_
      rintro e w2 ⟨rfl, k2⟩
      go_wp2_with fail
      go_ret
      exact ⟨rfl, (((k0.trans0 k1).trans0 k2).alloc _)⟩
  · have hd : decide (m ≤ 2147483647) = false := by simpa using hm
    clear hb
    go_enter Try.func10, Try.ntmps10
    go_wp2_with fail
    refine (zz_c L ad m cap _).mono ?_
    rintro e w1 ⟨rfl, k1⟩
    rw [hd]
    go_wp2_with fail
    go_ret
    exact ⟨rfl, k0.trans0 k1⟩

set_option maxHeartbeats 2000000 in
set_option linter.unusedVariables false in
theorem fnAny_good (L : Nat) (v : Value) (on : List Nat) (w : World) (hv : IntsAt w v on) (hL : L ≤ 2000) (hlen : on.length ≤ 400) (hon : ∀ x ∈ on, x < 2500) :
    Calls Try.prog 10 #[.agg #[.int .i64 L, v]] w fun e w' => e = .returned (.bool true) ∧ Kept [] w w' := by
  have k0 : Kept [] w (w.alloc (.cells #[.int .i64 L, v] 24)) := (Kept.refl _ _).alloc _
  have g0 : (w.alloc (.cells #[.int .i64 L, v] 24)).heap[w.heap.size]? = some (.cells #[.int .i64 L, v] 24 (0, 0)) := heap_alloc_new w _
  obtain ⟨ad, cap, rfl⟩ := hv.shape
  have hd : decide (on.length ≤ 2147483647) = true := by simp; omega
  have hln := lenOf_le L on 2500 (by omega) hon
  go_enter Try.func10, Try.ntmps10
  go_wp2_with fail
  refine (zz_c L ad on.length cap _).mono ?_
  rintro e w1 ⟨rfl, k1⟩
  have h1 := k1.heap (by simp) g0
  have c0 : w1.cell? ⟨w.heap.size, 0, none⟩ = some (.int .i64 L) := (cell_of_heap h1).trans rfl
  have c1 : w1.cell? ⟨w.heap.size, 1, none⟩ = some (.slice ad on.length cap) := (cell_of_heap h1).trans rfl
  rw [hd]
  go_wp2_with fail
  refine (setGood_c L _ on _ (hv.kept (k0.trans0 k1)) hL hlen hon).mono ?_
  rintro e w2 ⟨s, rfl, hs, k2⟩
  obtain ⟨b, c, rfl⟩ := hs.shape
  have hlt2 := lt_of_heap (k2.heap (by simp) h1)
  clear c0 c1
  go_wp2_with fail
  have hs5 := hs.kept ((Kept.refl _ _).alloc (.cells #[.slice (some ⟨b, 0, none⟩) (lenOf L on) c, .bool true] 28))
  have k3 : Kept [] w2 (w2.alloc (.cells #[.slice (some ⟨b, 0, none⟩) (lenOf L on) c, .bool true] 28)) := (Kept.refl _ _).alloc _
  have gA := k3.heap (by simp) (k2.heap (by simp) h1)
  have gB := heap_alloc_new w2 (.cells #[.slice (some ⟨b, 0, none⟩) (lenOf L on) c, .bool true] 28)
  have hv5 := hv.kept (((k0.trans0 k1).trans0 k2).trans0 k3)
  have kW := ((k0.trans0 k1).trans0 k2).trans0 k3
  clear k3 hs k1 k2 h1 g0 k0
  obtain ⟨N, hN⟩ : ∃ N, lenOf L on = N := ⟨_, rfl⟩
  rw [hN] at hs5 gB gA hln kW hv5 ⊢
  have HN := Lib.hid hN; clear hN
  generalize (w2.alloc (.cells #[.slice (some ⟨b, 0, none⟩) N c, .bool true] 28)) = W at *
  have A0 : ∀ w', Kept [] W w' → w'.cell? ⟨w.heap.size, 0, none⟩ = some (.int .i64 L) := fun w' k => (cell_of_heap (k.heap (by simp) gA)).trans rfl
  have A1 : ∀ w', Kept [] W w' → w'.cell? ⟨w.heap.size, 1, none⟩ = some (.slice ad on.length cap) := fun w' k => (cell_of_heap (k.heap (by simp) gA)).trans rfl
  have B0 : ∀ w', Kept [] W w' → w'.cell? ⟨w2.heap.size, 0, none⟩ = some (.slice (some ⟨b, 0, none⟩) N c) := fun w' k => (cell_of_heap (k.heap (by simp) gB)).trans rfl
  have B1 : ∀ w', Kept [] W w' → w'.cell? ⟨w2.heap.size, 1, none⟩ = some (.bool true) := fun w' k => (cell_of_heap (k.heap (by simp) gB)).trans rfl
  obtain ⟨C, hC⟩ : ∃ C, (onL N (memOf on)).length = C := ⟨_, rfl⟩
  have HC : Hid ((onL (lenOf L on) (memOf on)).length = C) := by rw [← hC, HN.out]; rfl
  have HC2 := Lib.hid hC; clear hC
  have x0 := B0 _ (Kept.refl [] W); have x1 := B1 _ (Kept.refl [] W)
  go_wp2_with fail
  refine (on_c _ N (memOf on) true _ hs5 (by omega)).mono ?_
  rintro e w7 ⟨v7, rfl, hown, k0⟩
  obtain ⟨ad7, cp7, rfl⟩ := (IntsAt.of_owns hown).shape
  rw [HC2.out]
  clear hown x0 x1
  go_wp2_with fail
  by_cases hz : C = 0
  · have HR1 : Hid ((!decide (C = 0)) = false) := by show _ = _; rw [decide_eq_true hz]; rfl
    have HR2 : Hid (decide (C = 0) = true) := decide_eq_true hz
    have e1 : ¬ (0 : Int) < (C : Int) := by omega
    have e2 : ((C : Int) == 0) = true := beq_iff_eq.2 (by omega)
    have e3 : decide (0 < C) = false := decide_eq_false (by omega)
    have e4 : decide (C = 0) = true := decide_eq_true hz
    by_cases hq : C = N
    · have HR3 : Hid (decide (C = N) = true) := decide_eq_true hq
      have e5 : ((C : Int) == (N : Int)) = true := beq_iff_eq.2 (by omega)
      have HZ := Lib.hid hz; have HQ := Lib.hid hq; clear hz hq
      refine wp_region_held_drew (S := fun w' => Kept [] W w') (by kernel_rfl) k0.drew (fun hS => ?_)
      refine takeD 0 19 (v := ?_) rfl rfl (by kernel_rfl) (by kernel_rfl) (by kernel_rfl) (fun _ _ _ h => h) (Or.inl ⟨by kernel_rfl, ?_⟩) hS ?_
      rotate_left 1
      · (intro w' hw'; (try dsimp only at hw'); go_simp; try with_reducible rfl)
      simp only [List.setIfInBounds_toArray, List.set_cons_zero, List.set_cons_succ]
      refine takeD 2 21 (v := ?_) rfl rfl (by kernel_rfl) (by kernel_rfl) (by kernel_rfl) (fun _ _ _ h => h) (Or.inl ⟨by kernel_rfl, ?_⟩) hS ?_
      rotate_left 1
      · (intro w' hw'; (try dsimp only at hw'); go_simp; try with_reducible rfl)
      simp only [List.setIfInBounds_toArray, List.set_cons_zero, List.set_cons_succ]
      refine takeD 3 22 (v := ?_) rfl rfl (by kernel_rfl) (by kernel_rfl) (by kernel_rfl) (fun _ _ _ h => h) (Or.inl ⟨by kernel_rfl, ?_⟩) hS ?_
      rotate_left 1
      · (intro w' hw'; (try dsimp only at hw'); go_simp; try with_reducible rfl)
      simp only [List.setIfInBounds_toArray, List.set_cons_zero, List.set_cons_succ]
      refine wpAnyH_ready (rs := [1]) (by kernel_rfl) (by simp) ?_
      refine AllReadyH.cons rfl (fun K hK => ?_) AllReadyH.nil
      go_simp
      refine (implAny_c L _ on _ (hv5.kept hS) (by have := HN.out; omega) (by omega) (fun x hx => by have := hon x hx; omega)).mono ?_
      rintro e w6 ⟨rfl, k6⟩
      rw [HC.out, show (!decide (C = 0)) = false from HR1.out]
      refine hK.out _ _ ?_ (fun hS1 => ?_)
      · exact hS.trans0 k6
      clear hK K
      (try simp only [Act.put, List.setIfInBounds_toArray, List.set_cons_zero, List.set_cons_succ])
      refine takeD 4 23 (v := ?_) rfl rfl (by kernel_rfl) (by kernel_rfl) (by kernel_rfl) (fun _ _ _ h => h) (Or.inl ⟨by kernel_rfl, ?_⟩) hS1 ?_
      rotate_left 1
      · (intro w' hw'; (try dsimp only at hw'); go_simp; try with_reducible rfl)
      simp only [List.setIfInBounds_toArray, List.set_cons_zero, List.set_cons_succ]
      refine takeD 5 24 (v := ?_) rfl rfl (by kernel_rfl) (by kernel_rfl) (by kernel_rfl) (fun _ _ _ h => h) (Or.inl ⟨by kernel_rfl, ?_⟩) hS1 ?_
      rotate_left 1
      · (intro w' hw'; (try dsimp only at hw'); go_simp; try with_reducible rfl)
      simp only [List.setIfInBounds_toArray, List.set_cons_zero, List.set_cons_succ]
      refine takeD 6 25 (v := ?_) rfl rfl (by kernel_rfl) (by kernel_rfl) (by kernel_rfl) (fun _ _ _ h => h) (Or.inl ⟨by kernel_rfl, ?_⟩) hS1 ?_
      rotate_left 1
      · (intro w' hw'; (try dsimp only at hw'); go_simp; try with_reducible rfl)
      simp only [List.setIfInBounds_toArray, List.set_cons_zero, List.set_cons_succ]
      refine takeD 8 27 (v := ?_) rfl rfl (by kernel_rfl) (by kernel_rfl) (by kernel_rfl) (fun _ _ _ h => h) (Or.inl ⟨by kernel_rfl, ?_⟩) hS1 ?_
      rotate_left 1
      · (intro w' hw'; (try dsimp only at hw'); go_simp; try with_reducible rfl)
      simp only [List.setIfInBounds_toArray, List.set_cons_zero, List.set_cons_succ]
      refine takeD 9 28 (v := ?_) rfl rfl (by kernel_rfl) (by kernel_rfl) (by kernel_rfl) (fun _ _ _ h => h) (Or.inl ⟨by kernel_rfl, ?_⟩) hS1 ?_
      rotate_left 1
      · (intro w' hw'; (try dsimp only at hw'); go_simp; try with_reducible rfl)
      simp only [List.setIfInBounds_toArray, List.set_cons_zero, List.set_cons_succ]
      refine wpAnyH_ready (rs := [7]) (by kernel_rfl) (by simp) ?_
      refine AllReadyH.cons rfl (fun K hK => ?_) AllReadyH.nil
      go_simp
      refine (implNone_c L _ on _ (hv5.kept hS1) (by have := HN.out; omega) (by omega) (fun x hx => by have := hon x hx; omega)).mono ?_
      rintro e w7 ⟨rfl, k7⟩
      rw [HC.out, show decide (C = 0) = true from HR2.out]
      refine hK.out _ _ ?_ (fun hS2 => ?_)
      · exact hS1.trans0 k7
      clear hK K
      (try simp only [Act.put, List.setIfInBounds_toArray, List.set_cons_zero, List.set_cons_succ])
      refine takeD 10 29 (v := ?_) rfl rfl (by kernel_rfl) (by kernel_rfl) (by kernel_rfl) (fun _ _ _ h => h) (Or.inl ⟨by kernel_rfl, ?_⟩) hS2 ?_
      rotate_left 1
      · (intro w' hw'; (try dsimp only at hw'); go_simp; try with_reducible rfl)
      simp only [List.setIfInBounds_toArray, List.set_cons_zero, List.set_cons_succ]
      refine takeD 11 30 (v := ?_) rfl rfl (by kernel_rfl) (by kernel_rfl) (by kernel_rfl) (fun _ _ _ h => h) (Or.inl ⟨by kernel_rfl, ?_⟩) hS2 ?_
      rotate_left 1
      · (intro w' hw'; (try dsimp only at hw'); go_simp; try with_reducible rfl)
      simp only [List.setIfInBounds_toArray, List.set_cons_zero, List.set_cons_succ]
      refine takeD 12 31 (v := ?_) rfl rfl (by kernel_rfl) (by kernel_rfl) (by kernel_rfl) (fun _ _ _ h => h) (Or.inl ⟨by kernel_rfl, ?_⟩) hS2 ?_
      rotate_left 1
      · (intro w' hw'; (try dsimp only at hw'); go_simp; try with_reducible rfl)
      simp only [List.setIfInBounds_toArray, List.set_cons_zero, List.set_cons_succ]
      refine takeD 13 32 (v := ?_) rfl rfl (by kernel_rfl) (by kernel_rfl) (by kernel_rfl) (fun _ _ _ h => h) (Or.inl ⟨by kernel_rfl, ?_⟩) hS2 ?_
      rotate_left 1
      · (intro w' hw'; (try dsimp only at hw'); go_simp; try with_reducible rfl)
      simp only [List.setIfInBounds_toArray, List.set_cons_zero, List.set_cons_succ]
      refine takeD 15 34 (v := ?_) rfl rfl (by kernel_rfl) (by kernel_rfl) (by kernel_rfl) (fun _ _ _ h => h) (Or.inl ⟨by kernel_rfl, ?_⟩) hS2 ?_
      rotate_left 1
      · (intro w' hw'; (try dsimp only at hw'); go_simp; try with_reducible rfl)
      simp only [List.setIfInBounds_toArray, List.set_cons_zero, List.set_cons_succ]
      refine takeD 16 35 (v := ?_) rfl rfl (by kernel_rfl) (by kernel_rfl) (by kernel_rfl) (fun _ _ _ h => h) (Or.inl ⟨by kernel_rfl, ?_⟩) hS2 ?_
      rotate_left 1
      · (intro w' hw'; (try dsimp only at hw'); go_simp; try with_reducible rfl)
      simp only [List.setIfInBounds_toArray, List.set_cons_zero, List.set_cons_succ]
      refine takeD 17 36 (v := ?_) rfl rfl (by kernel_rfl) (by kernel_rfl) (by kernel_rfl) (fun _ _ _ h => h) (Or.inl ⟨by kernel_rfl, ?_⟩) hS2 ?_
      rotate_left 1
      · (intro w' hw'; (try dsimp only at hw'); go_simp; try with_reducible rfl)
      simp only [List.setIfInBounds_toArray, List.set_cons_zero, List.set_cons_succ]
      refine takeD 18 37 (v := ?_) rfl rfl (by kernel_rfl) (by kernel_rfl) (by kernel_rfl) (fun _ _ _ h => h) (Or.inl ⟨by kernel_rfl, ?_⟩) hS2 ?_
      rotate_left 1
      · (intro w' hw'; (try dsimp only at hw'); go_simp; try with_reducible rfl)
      simp only [List.setIfInBounds_toArray, List.set_cons_zero, List.set_cons_succ]
      refine takeD 19 38 (v := ?_) rfl rfl (by kernel_rfl) (by kernel_rfl) (by kernel_rfl) (fun _ _ _ h => h) (Or.inl ⟨by kernel_rfl, ?_⟩) hS2 ?_
      rotate_left 1
      · (intro w' hw'; (try dsimp only at hw'); go_simp; try with_reducible rfl)
      simp only [List.setIfInBounds_toArray, List.set_cons_zero, List.set_cons_succ]
      refine wpAnyH_ready (rs := [14]) (by kernel_rfl) (by simp) ?_
      refine AllReadyH.cons rfl (fun K hK => ?_) AllReadyH.nil
      go_simp
      refine (implAll_c L _ on _ (hv5.kept hS2) (by have := HN.out; omega) (by omega) (fun x hx => by have := hon x hx; omega)).mono ?_
      rintro e w8 ⟨rfl, k8⟩
      rw [HC.out, HN.out, show decide (C = N) = true from HR3.out]
      refine hK.out _ _ ?_ (fun hS3 => ?_)
      · exact hS2.trans0 k8
      clear hK K
      (try simp only [Act.put, List.setIfInBounds_toArray, List.set_cons_zero, List.set_cons_succ])
      refine takeD 20 39 (v := ?_) rfl rfl (by kernel_rfl) (by kernel_rfl) (by kernel_rfl) (fun _ _ _ h => h) (Or.inl ⟨by kernel_rfl, ?_⟩) hS3 ?_
      rotate_left 1
      · (intro w' hw'; (try dsimp only at hw'); go_simp; try with_reducible rfl)
      simp only [List.setIfInBounds_toArray, List.set_cons_zero, List.set_cons_succ]
      refine takeD 21 40 (v := ?_) rfl rfl (by kernel_rfl) (by kernel_rfl) (by kernel_rfl) (fun _ _ _ h => h) (Or.inl ⟨by kernel_rfl, ?_⟩) hS3 ?_
      rotate_left 1
      · (intro w' hw'; (try dsimp only at hw'); go_simp; try with_reducible rfl)
      simp only [List.setIfInBounds_toArray, List.set_cons_zero, List.set_cons_succ]
      refine takeD 22 2 (v := ?_) rfl rfl (by kernel_rfl) (by kernel_rfl) (by kernel_rfl) (fun _ _ _ h => h) (Or.inl ⟨by kernel_rfl, ?_⟩) hS3 ?_
      rotate_left 1
      · (intro w' hw'; (try dsimp only at hw'); go_simp; try with_reducible rfl)
      simp only [List.setIfInBounds_toArray, List.set_cons_zero, List.set_cons_succ]
      refine wpAnyH_done (by kernel_rfl) ?_ _
      go_wp2
      go_ret
      exact ⟨by simp, kW.trans0 hS3⟩
    · have HR3 : Hid (decide (C = N) = false) := decide_eq_false hq
      have e5 : ((C : Int) == (N : Int)) = false := beq_eq_false_iff_ne.2 (by omega)
      have HZ := Lib.hid hz; have HQ := Lib.hid hq; clear hz hq
      refine wp_region_held_drew (S := fun w' => Kept [] W w') (by kernel_rfl) k0.drew (fun hS => ?_)
      refine takeD 0 19 (v := ?_) rfl rfl (by kernel_rfl) (by kernel_rfl) (by kernel_rfl) (fun _ _ _ h => h) (Or.inl ⟨by kernel_rfl, ?_⟩) hS ?_
      rotate_left 1
      · (intro w' hw'; (try dsimp only at hw'); go_simp; try with_reducible rfl)
      simp only [List.setIfInBounds_toArray, List.set_cons_zero, List.set_cons_succ]
      refine takeD 2 21 (v := ?_) rfl rfl (by kernel_rfl) (by kernel_rfl) (by kernel_rfl) (fun _ _ _ h => h) (Or.inl ⟨by kernel_rfl, ?_⟩) hS ?_
      rotate_left 1
      · (intro w' hw'; (try dsimp only at hw'); go_simp; try with_reducible rfl)
      simp only [List.setIfInBounds_toArray, List.set_cons_zero, List.set_cons_succ]
      refine takeD 3 22 (v := ?_) rfl rfl (by kernel_rfl) (by kernel_rfl) (by kernel_rfl) (fun _ _ _ h => h) (Or.inl ⟨by kernel_rfl, ?_⟩) hS ?_
      rotate_left 1
      · (intro w' hw'; (try dsimp only at hw'); go_simp; try with_reducible rfl)
      simp only [List.setIfInBounds_toArray, List.set_cons_zero, List.set_cons_succ]
      refine wpAnyH_ready (rs := [1]) (by kernel_rfl) (by simp) ?_
      refine AllReadyH.cons rfl (fun K hK => ?_) AllReadyH.nil
      go_simp
      refine (implAny_c L _ on _ (hv5.kept hS) (by have := HN.out; omega) (by omega) (fun x hx => by have := hon x hx; omega)).mono ?_
      rintro e w6 ⟨rfl, k6⟩
      rw [HC.out, show (!decide (C = 0)) = false from HR1.out]
      refine hK.out _ _ ?_ (fun hS1 => ?_)
      · exact hS.trans0 k6
      clear hK K
      (try simp only [Act.put, List.setIfInBounds_toArray, List.set_cons_zero, List.set_cons_succ])
      refine takeD 4 23 (v := ?_) rfl rfl (by kernel_rfl) (by kernel_rfl) (by kernel_rfl) (fun _ _ _ h => h) (Or.inl ⟨by kernel_rfl, ?_⟩) hS1 ?_
      rotate_left 1
      · (intro w' hw'; (try dsimp only at hw'); go_simp; try with_reducible rfl)
      simp only [List.setIfInBounds_toArray, List.set_cons_zero, List.set_cons_succ]
      refine takeD 5 24 (v := ?_) rfl rfl (by kernel_rfl) (by kernel_rfl) (by kernel_rfl) (fun _ _ _ h => h) (Or.inl ⟨by kernel_rfl, ?_⟩) hS1 ?_
      rotate_left 1
      · (intro w' hw'; (try dsimp only at hw'); go_simp; try with_reducible rfl)
      simp only [List.setIfInBounds_toArray, List.set_cons_zero, List.set_cons_succ]
      refine takeD 6 25 (v := ?_) rfl rfl (by kernel_rfl) (by kernel_rfl) (by kernel_rfl) (fun _ _ _ h => h) (Or.inl ⟨by kernel_rfl, ?_⟩) hS1 ?_
      rotate_left 1
      · (intro w' hw'; (try dsimp only at hw'); go_simp; try with_reducible rfl)
      simp only [List.setIfInBounds_toArray, List.set_cons_zero, List.set_cons_succ]
      refine takeD 8 27 (v := ?_) rfl rfl (by kernel_rfl) (by kernel_rfl) (by kernel_rfl) (fun _ _ _ h => h) (Or.inl ⟨by kernel_rfl, ?_⟩) hS1 ?_
      rotate_left 1
      · (intro w' hw'; (try dsimp only at hw'); go_simp; try with_reducible rfl)
      simp only [List.setIfInBounds_toArray, List.set_cons_zero, List.set_cons_succ]
      refine takeD 9 28 (v := ?_) rfl rfl (by kernel_rfl) (by kernel_rfl) (by kernel_rfl) (fun _ _ _ h => h) (Or.inl ⟨by kernel_rfl, ?_⟩) hS1 ?_
      rotate_left 1
      · (intro w' hw'; (try dsimp only at hw'); go_simp; try with_reducible rfl)
      simp only [List.setIfInBounds_toArray, List.set_cons_zero, List.set_cons_succ]
      refine wpAnyH_ready (rs := [7]) (by kernel_rfl) (by simp) ?_
      refine AllReadyH.cons rfl (fun K hK => ?_) AllReadyH.nil
      go_simp
      refine (implNone_c L _ on _ (hv5.kept hS1) (by have := HN.out; omega) (by omega) (fun x hx => by have := hon x hx; omega)).mono ?_
      rintro e w7 ⟨rfl, k7⟩
      rw [HC.out, show decide (C = 0) = true from HR2.out]
      refine hK.out _ _ ?_ (fun hS2 => ?_)
      · exact hS1.trans0 k7
      clear hK K
      (try simp only [Act.put, List.setIfInBounds_toArray, List.set_cons_zero, List.set_cons_succ])
      refine takeD 10 29 (v := ?_) rfl rfl (by kernel_rfl) (by kernel_rfl) (by kernel_rfl) (fun _ _ _ h => h) (Or.inl ⟨by kernel_rfl, ?_⟩) hS2 ?_
      rotate_left 1
      · (intro w' hw'; (try dsimp only at hw'); go_simp; try with_reducible rfl)
      simp only [List.setIfInBounds_toArray, List.set_cons_zero, List.set_cons_succ]
      refine takeD 11 30 (v := ?_) rfl rfl (by kernel_rfl) (by kernel_rfl) (by kernel_rfl) (fun _ _ _ h => h) (Or.inl ⟨by kernel_rfl, ?_⟩) hS2 ?_
      rotate_left 1
      · (intro w' hw'; (try dsimp only at hw'); go_simp; try with_reducible rfl)
      simp only [List.setIfInBounds_toArray, List.set_cons_zero, List.set_cons_succ]
      refine takeD 12 31 (v := ?_) rfl rfl (by kernel_rfl) (by kernel_rfl) (by kernel_rfl) (fun _ _ _ h => h) (Or.inl ⟨by kernel_rfl, ?_⟩) hS2 ?_
      rotate_left 1
      · (intro w' hw'; (try dsimp only at hw'); go_simp; try with_reducible rfl)
      simp only [List.setIfInBounds_toArray, List.set_cons_zero, List.set_cons_succ]
      refine takeD 13 32 (v := ?_) rfl rfl (by kernel_rfl) (by kernel_rfl) (by kernel_rfl) (fun _ _ _ h => h) (Or.inl ⟨by kernel_rfl, ?_⟩) hS2 ?_
      rotate_left 1
      · (intro w' hw'; (try dsimp only at hw'); go_simp; try with_reducible rfl)
      simp only [List.setIfInBounds_toArray, List.set_cons_zero, List.set_cons_succ]
      refine takeD 15 34 (v := ?_) rfl rfl (by kernel_rfl) (by kernel_rfl) (by kernel_rfl) (fun _ _ _ h => h) (Or.inl ⟨by kernel_rfl, ?_⟩) hS2 ?_
      rotate_left 1
      · (intro w' hw'; (try dsimp only at hw'); go_simp; try with_reducible rfl)
      simp only [List.setIfInBounds_toArray, List.set_cons_zero, List.set_cons_succ]
      refine takeD 16 35 (v := ?_) rfl rfl (by kernel_rfl) (by kernel_rfl) (by kernel_rfl) (fun _ _ _ h => h) (Or.inl ⟨by kernel_rfl, ?_⟩) hS2 ?_
      rotate_left 1
      · (intro w' hw'; (try dsimp only at hw'); go_simp; try with_reducible rfl)
      simp only [List.setIfInBounds_toArray, List.set_cons_zero, List.set_cons_succ]
      refine takeD 17 36 (v := ?_) rfl rfl (by kernel_rfl) (by kernel_rfl) (by kernel_rfl) (fun _ _ _ h => h) (Or.inl ⟨by kernel_rfl, ?_⟩) hS2 ?_
      rotate_left 1
      · (intro w' hw'; (try dsimp only at hw'); go_simp; try with_reducible rfl)
      simp only [List.setIfInBounds_toArray, List.set_cons_zero, List.set_cons_succ]
      refine takeD 18 37 (v := ?_) rfl rfl (by kernel_rfl) (by kernel_rfl) (by kernel_rfl) (fun _ _ _ h => h) (Or.inl ⟨by kernel_rfl, ?_⟩) hS2 ?_
      rotate_left 1
      · (intro w' hw'; (try dsimp only at hw'); go_simp; try with_reducible rfl)
      simp only [List.setIfInBounds_toArray, List.set_cons_zero, List.set_cons_succ]
      refine takeD 19 38 (v := ?_) rfl rfl (by kernel_rfl) (by kernel_rfl) (by kernel_rfl) (fun _ _ _ h => h) (Or.inl ⟨by kernel_rfl, ?_⟩) hS2 ?_
      rotate_left 1
      · (intro w' hw'; (try dsimp only at hw'); go_simp; try with_reducible rfl)
      simp only [List.setIfInBounds_toArray, List.set_cons_zero, List.set_cons_succ]
      refine wpAnyH_ready (rs := [14]) (by kernel_rfl) (by simp) ?_
      refine AllReadyH.cons rfl (fun K hK => ?_) AllReadyH.nil
      go_simp
      refine (implAll_c L _ on _ (hv5.kept hS2) (by have := HN.out; omega) (by omega) (fun x hx => by have := hon x hx; omega)).mono ?_
      rintro e w8 ⟨rfl, k8⟩
      rw [HC.out, HN.out, show decide (C = N) = false from HR3.out]
      refine hK.out _ _ ?_ (fun hS3 => ?_)
      · exact hS2.trans0 k8
      clear hK K
      (try simp only [Act.put, List.setIfInBounds_toArray, List.set_cons_zero, List.set_cons_succ])
      refine takeD 20 39 (v := ?_) rfl rfl (by kernel_rfl) (by kernel_rfl) (by kernel_rfl) (fun _ _ _ h => h) (Or.inl ⟨by kernel_rfl, ?_⟩) hS3 ?_
      rotate_left 1
      · (intro w' hw'; (try dsimp only at hw'); go_simp; try with_reducible rfl)
      simp only [List.setIfInBounds_toArray, List.set_cons_zero, List.set_cons_succ]
      refine takeD 21 40 (v := ?_) rfl rfl (by kernel_rfl) (by kernel_rfl) (by kernel_rfl) (fun _ _ _ h => h) (Or.inl ⟨by kernel_rfl, ?_⟩) hS3 ?_
      rotate_left 1
      · (intro w' hw'; (try dsimp only at hw'); go_simp; try with_reducible rfl)
      simp only [List.setIfInBounds_toArray, List.set_cons_zero, List.set_cons_succ]
      refine takeD 22 2 (v := ?_) rfl rfl (by kernel_rfl) (by kernel_rfl) (by kernel_rfl) (fun _ _ _ h => h) (Or.inl ⟨by kernel_rfl, ?_⟩) hS3 ?_
      rotate_left 1
      · (intro w' hw'; (try dsimp only at hw'); go_simp; try with_reducible rfl)
      simp only [List.setIfInBounds_toArray, List.set_cons_zero, List.set_cons_succ]
      refine wpAnyH_done (by kernel_rfl) ?_ _
      go_wp2
      go_ret
      exact ⟨by simp, kW.trans0 hS3⟩
  · have HR1 : Hid ((!decide (C = 0)) = true) := by show _ = _; rw [decide_eq_false hz]; rfl
    have HR2 : Hid (decide (C = 0) = false) := decide_eq_false hz
    have e1 : (0 : Int) < (C : Int) := by omega
    have e2 : ((C : Int) == 0) = false := beq_eq_false_iff_ne.2 (by omega)
    have e3 : decide (0 < C) = true := decide_eq_true (by omega)
    have e4 : decide (C = 0) = false := decide_eq_false hz
    by_cases hq : C = N
    · have HR3 : Hid (decide (C = N) = true) := decide_eq_true hq
      have e5 : ((C : Int) == (N : Int)) = true := beq_iff_eq.2 (by omega)
      have HZ := Lib.hid hz; have HQ := Lib.hid hq; clear hz hq
      refine wp_region_held_drew (S := fun w' => Kept [] W w') (by kernel_rfl) k0.drew (fun hS => ?_)
      refine takeD 0 19 (v := ?_) rfl rfl (by kernel_rfl) (by kernel_rfl) (by kernel_rfl) (fun _ _ _ h => h) (Or.inl ⟨by kernel_rfl, ?_⟩) hS ?_
      rotate_left 1
      · (intro w' hw'; (try dsimp only at hw'); go_simp; try with_reducible rfl)
      simp only [List.setIfInBounds_toArray, List.set_cons_zero, List.set_cons_succ]
      refine takeD 2 21 (v := ?_) rfl rfl (by kernel_rfl) (by kernel_rfl) (by kernel_rfl) (fun _ _ _ h => h) (Or.inl ⟨by kernel_rfl, ?_⟩) hS ?_
      rotate_left 1
      · (intro w' hw'; (try dsimp only at hw'); go_simp; try with_reducible rfl)
      simp only [List.setIfInBounds_toArray, List.set_cons_zero, List.set_cons_succ]
      refine takeD 3 22 (v := ?_) rfl rfl (by kernel_rfl) (by kernel_rfl) (by kernel_rfl) (fun _ _ _ h => h) (Or.inl ⟨by kernel_rfl, ?_⟩) hS ?_
      rotate_left 1
      · (intro w' hw'; (try dsimp only at hw'); go_simp; try with_reducible rfl)
      simp only [List.setIfInBounds_toArray, List.set_cons_zero, List.set_cons_succ]
      refine wpAnyH_ready (rs := [1]) (by kernel_rfl) (by simp) ?_
      refine AllReadyH.cons rfl (fun K hK => ?_) AllReadyH.nil
      go_simp
      refine (implAny_c L _ on _ (hv5.kept hS) (by have := HN.out; omega) (by omega) (fun x hx => by have := hon x hx; omega)).mono ?_
      rintro e w6 ⟨rfl, k6⟩
      rw [HC.out, show (!decide (C = 0)) = true from HR1.out]
      refine hK.out _ _ ?_ (fun hS1 => ?_)
      · exact hS.trans0 k6
      clear hK K
      (try simp only [Act.put, List.setIfInBounds_toArray, List.set_cons_zero, List.set_cons_succ])
      refine takeD 4 23 (v := ?_) rfl rfl (by kernel_rfl) (by kernel_rfl) (by kernel_rfl) (fun _ _ _ h => h) (Or.inl ⟨by kernel_rfl, ?_⟩) hS1 ?_
      rotate_left 1
      · (intro w' hw'; (try dsimp only at hw'); go_simp; try with_reducible rfl)
      simp only [List.setIfInBounds_toArray, List.set_cons_zero, List.set_cons_succ]
      refine takeD 5 24 (v := ?_) rfl rfl (by kernel_rfl) (by kernel_rfl) (by kernel_rfl) (fun _ _ _ h => h) (Or.inl ⟨by kernel_rfl, ?_⟩) hS1 ?_
      rotate_left 1
      · (intro w' hw'; (try dsimp only at hw'); go_simp; try with_reducible rfl)
      simp only [List.setIfInBounds_toArray, List.set_cons_zero, List.set_cons_succ]
      refine takeD 6 25 (v := ?_) rfl rfl (by kernel_rfl) (by kernel_rfl) (by kernel_rfl) (fun _ _ _ h => h) (Or.inl ⟨by kernel_rfl, ?_⟩) hS1 ?_
      rotate_left 1
      · (intro w' hw'; (try dsimp only at hw'); go_simp; try with_reducible rfl)
      simp only [List.setIfInBounds_toArray, List.set_cons_zero, List.set_cons_succ]
      refine takeD 8 27 (v := ?_) rfl rfl (by kernel_rfl) (by kernel_rfl) (by kernel_rfl) (fun _ _ _ h => h) (Or.inl ⟨by kernel_rfl, ?_⟩) hS1 ?_
      rotate_left 1
      · (intro w' hw'; (try dsimp only at hw'); go_simp; try with_reducible rfl)
      simp only [List.setIfInBounds_toArray, List.set_cons_zero, List.set_cons_succ]
      refine takeD 9 28 (v := ?_) rfl rfl (by kernel_rfl) (by kernel_rfl) (by kernel_rfl) (fun _ _ _ h => h) (Or.inl ⟨by kernel_rfl, ?_⟩) hS1 ?_
      rotate_left 1
      · (intro w' hw'; (try dsimp only at hw'); go_simp; try with_reducible rfl)
      simp only [List.setIfInBounds_toArray, List.set_cons_zero, List.set_cons_succ]
      refine wpAnyH_ready (rs := [7]) (by kernel_rfl) (by simp) ?_
      refine AllReadyH.cons rfl (fun K hK => ?_) AllReadyH.nil
      go_simp
      refine (implNone_c L _ on _ (hv5.kept hS1) (by have := HN.out; omega) (by omega) (fun x hx => by have := hon x hx; omega)).mono ?_
      rintro e w7 ⟨rfl, k7⟩
      rw [HC.out, show decide (C = 0) = false from HR2.out]
      refine hK.out _ _ ?_ (fun hS2 => ?_)
      · exact hS1.trans0 k7
      clear hK K
      (try simp only [Act.put, List.setIfInBounds_toArray, List.set_cons_zero, List.set_cons_succ])
      refine takeD 10 29 (v := ?_) rfl rfl (by kernel_rfl) (by kernel_rfl) (by kernel_rfl) (fun _ _ _ h => h) (Or.inl ⟨by kernel_rfl, ?_⟩) hS2 ?_
      rotate_left 1
      · (intro w' hw'; (try dsimp only at hw'); go_simp; try with_reducible rfl)
      simp only [List.setIfInBounds_toArray, List.set_cons_zero, List.set_cons_succ]
      refine takeD 11 30 (v := ?_) rfl rfl (by kernel_rfl) (by kernel_rfl) (by kernel_rfl) (fun _ _ _ h => h) (Or.inl ⟨by kernel_rfl, ?_⟩) hS2 ?_
      rotate_left 1
      · (intro w' hw'; (try dsimp only at hw'); go_simp; try with_reducible rfl)
      simp only [List.setIfInBounds_toArray, List.set_cons_zero, List.set_cons_succ]
      refine takeD 12 31 (v := ?_) rfl rfl (by kernel_rfl) (by kernel_rfl) (by kernel_rfl) (fun _ _ _ h => h) (Or.inl ⟨by kernel_rfl, ?_⟩) hS2 ?_
      rotate_left 1
      · (intro w' hw'; (try dsimp only at hw'); go_simp; try with_reducible rfl)
      simp only [List.setIfInBounds_toArray, List.set_cons_zero, List.set_cons_succ]
      refine takeD 13 32 (v := ?_) rfl rfl (by kernel_rfl) (by kernel_rfl) (by kernel_rfl) (fun _ _ _ h => h) (Or.inl ⟨by kernel_rfl, ?_⟩) hS2 ?_
      rotate_left 1
      · (intro w' hw'; (try dsimp only at hw'); go_simp; try with_reducible rfl)
      simp only [List.setIfInBounds_toArray, List.set_cons_zero, List.set_cons_succ]
      refine takeD 15 34 (v := ?_) rfl rfl (by kernel_rfl) (by kernel_rfl) (by kernel_rfl) (fun _ _ _ h => h) (Or.inl ⟨by kernel_rfl, ?_⟩) hS2 ?_
      rotate_left 1
      · (intro w' hw'; (try dsimp only at hw'); go_simp; try with_reducible rfl)
      simp only [List.setIfInBounds_toArray, List.set_cons_zero, List.set_cons_succ]
      refine takeD 16 35 (v := ?_) rfl rfl (by kernel_rfl) (by kernel_rfl) (by kernel_rfl) (fun _ _ _ h => h) (Or.inl ⟨by kernel_rfl, ?_⟩) hS2 ?_
      rotate_left 1
      · (intro w' hw'; (try dsimp only at hw'); go_simp; try with_reducible rfl)
      simp only [List.setIfInBounds_toArray, List.set_cons_zero, List.set_cons_succ]
      refine takeD 17 36 (v := ?_) rfl rfl (by kernel_rfl) (by kernel_rfl) (by kernel_rfl) (fun _ _ _ h => h) (Or.inl ⟨by kernel_rfl, ?_⟩) hS2 ?_
      rotate_left 1
      · (intro w' hw'; (try dsimp only at hw'); go_simp; try with_reducible rfl)
      simp only [List.setIfInBounds_toArray, List.set_cons_zero, List.set_cons_succ]
      refine takeD 18 37 (v := ?_) rfl rfl (by kernel_rfl) (by kernel_rfl) (by kernel_rfl) (fun _ _ _ h => h) (Or.inl ⟨by kernel_rfl, ?_⟩) hS2 ?_
      rotate_left 1
      · (intro w' hw'; (try dsimp only at hw'); go_simp; try with_reducible rfl)
      simp only [List.setIfInBounds_toArray, List.set_cons_zero, List.set_cons_succ]
      refine takeD 19 38 (v := ?_) rfl rfl (by kernel_rfl) (by kernel_rfl) (by kernel_rfl) (fun _ _ _ h => h) (Or.inl ⟨by kernel_rfl, ?_⟩) hS2 ?_
      rotate_left 1
      · (intro w' hw'; (try dsimp only at hw'); go_simp; try with_reducible rfl)
      simp only [List.setIfInBounds_toArray, List.set_cons_zero, List.set_cons_succ]
      refine wpAnyH_ready (rs := [14]) (by kernel_rfl) (by simp) ?_
      refine AllReadyH.cons rfl (fun K hK => ?_) AllReadyH.nil
      go_simp
      refine (implAll_c L _ on _ (hv5.kept hS2) (by have := HN.out; omega) (by omega) (fun x hx => by have := hon x hx; omega)).mono ?_
      rintro e w8 ⟨rfl, k8⟩
      rw [HC.out, HN.out, show decide (C = N) = true from HR3.out]
      refine hK.out _ _ ?_ (fun hS3 => ?_)
      · exact hS2.trans0 k8
      clear hK K
      (try simp only [Act.put, List.setIfInBounds_toArray, List.set_cons_zero, List.set_cons_succ])
      refine takeD 20 39 (v := ?_) rfl rfl (by kernel_rfl) (by kernel_rfl) (by kernel_rfl) (fun _ _ _ h => h) (Or.inl ⟨by kernel_rfl, ?_⟩) hS3 ?_
      rotate_left 1
      · (intro w' hw'; (try dsimp only at hw'); go_simp; try with_reducible rfl)
      simp only [List.setIfInBounds_toArray, List.set_cons_zero, List.set_cons_succ]
      refine takeD 21 40 (v := ?_) rfl rfl (by kernel_rfl) (by kernel_rfl) (by kernel_rfl) (fun _ _ _ h => h) (Or.inl ⟨by kernel_rfl, ?_⟩) hS3 ?_
      rotate_left 1
      · (intro w' hw'; (try dsimp only at hw'); go_simp; try with_reducible rfl)
      simp only [List.setIfInBounds_toArray, List.set_cons_zero, List.set_cons_succ]
      refine takeD 22 2 (v := ?_) rfl rfl (by kernel_rfl) (by kernel_rfl) (by kernel_rfl) (fun _ _ _ h => h) (Or.inl ⟨by kernel_rfl, ?_⟩) hS3 ?_
      rotate_left 1
      · (intro w' hw'; (try dsimp only at hw'); go_simp; try with_reducible rfl)
      simp only [List.setIfInBounds_toArray, List.set_cons_zero, List.set_cons_succ]
      refine wpAnyH_done (by kernel_rfl) ?_ _
      go_wp2
      go_ret
      exact ⟨by simp, kW.trans0 hS3⟩
    · have HR3 : Hid (decide (C = N) = false) := decide_eq_false hq
      have e5 : ((C : Int) == (N : Int)) = false := beq_eq_false_iff_ne.2 (by omega)
      have HZ := Lib.hid hz; have HQ := Lib.hid hq; clear hz hq
      refine wp_region_held_drew (S := fun w' => Kept [] W w') (by kernel_rfl) k0.drew (fun hS => ?_)
      refine takeD 0 19 (v := ?_) rfl rfl (by kernel_rfl) (by kernel_rfl) (by kernel_rfl) (fun _ _ _ h => h) (Or.inl ⟨by kernel_rfl, ?_⟩) hS ?_
      rotate_left 1
      · (intro w' hw'; (try dsimp only at hw'); go_simp; try with_reducible rfl)
      simp only [List.setIfInBounds_toArray, List.set_cons_zero, List.set_cons_succ]
      refine takeD 2 21 (v := ?_) rfl rfl (by kernel_rfl) (by kernel_rfl) (by kernel_rfl) (fun _ _ _ h => h) (Or.inl ⟨by kernel_rfl, ?_⟩) hS ?_
      rotate_left 1
      · (intro w' hw'; (try dsimp only at hw'); go_simp; try with_reducible rfl)
      simp only [List.setIfInBounds_toArray, List.set_cons_zero, List.set_cons_succ]
      refine takeD 3 22 (v := ?_) rfl rfl (by kernel_rfl) (by kernel_rfl) (by kernel_rfl) (fun _ _ _ h => h) (Or.inl ⟨by kernel_rfl, ?_⟩) hS ?_
      rotate_left 1
      · (intro w' hw'; (try dsimp only at hw'); go_simp; try with_reducible rfl)
      simp only [List.setIfInBounds_toArray, List.set_cons_zero, List.set_cons_succ]
      refine wpAnyH_ready (rs := [1]) (by kernel_rfl) (by simp) ?_
      refine AllReadyH.cons rfl (fun K hK => ?_) AllReadyH.nil
      go_simp
      refine (implAny_c L _ on _ (hv5.kept hS) (by have := HN.out; omega) (by omega) (fun x hx => by have := hon x hx; omega)).mono ?_
      rintro e w6 ⟨rfl, k6⟩
      rw [HC.out, show (!decide (C = 0)) = true from HR1.out]
      refine hK.out _ _ ?_ (fun hS1 => ?_)
      · exact hS.trans0 k6
      clear hK K
      (try simp only [Act.put, List.setIfInBounds_toArray, List.set_cons_zero, List.set_cons_succ])
      refine takeD 4 23 (v := ?_) rfl rfl (by kernel_rfl) (by kernel_rfl) (by kernel_rfl) (fun _ _ _ h => h) (Or.inl ⟨by kernel_rfl, ?_⟩) hS1 ?_
      rotate_left 1
      · (intro w' hw'; (try dsimp only at hw'); go_simp; try with_reducible rfl)
      simp only [List.setIfInBounds_toArray, List.set_cons_zero, List.set_cons_succ]
      refine takeD 5 24 (v := ?_) rfl rfl (by kernel_rfl) (by kernel_rfl) (by kernel_rfl) (fun _ _ _ h => h) (Or.inl ⟨by kernel_rfl, ?_⟩) hS1 ?_
      rotate_left 1
      · (intro w' hw'; (try dsimp only at hw'); go_simp; try with_reducible rfl)
      simp only [List.setIfInBounds_toArray, List.set_cons_zero, List.set_cons_succ]
      refine takeD 6 25 (v := ?_) rfl rfl (by kernel_rfl) (by kernel_rfl) (by kernel_rfl) (fun _ _ _ h => h) (Or.inl ⟨by kernel_rfl, ?_⟩) hS1 ?_
      rotate_left 1
      · (intro w' hw'; (try dsimp only at hw'); go_simp; try with_reducible rfl)
      simp only [List.setIfInBounds_toArray, List.set_cons_zero, List.set_cons_succ]
      refine takeD 8 27 (v := ?_) rfl rfl (by kernel_rfl) (by kernel_rfl) (by kernel_rfl) (fun _ _ _ h => h) (Or.inl ⟨by kernel_rfl, ?_⟩) hS1 ?_
      rotate_left 1
      · (intro w' hw'; (try dsimp only at hw'); go_simp; try with_reducible rfl)
      simp only [List.setIfInBounds_toArray, List.set_cons_zero, List.set_cons_succ]
      refine takeD 9 28 (v := ?_) rfl rfl (by kernel_rfl) (by kernel_rfl) (by kernel_rfl) (fun _ _ _ h => h) (Or.inl ⟨by kernel_rfl, ?_⟩) hS1 ?_
      rotate_left 1
      · (intro w' hw'; (try dsimp only at hw'); go_simp; try with_reducible rfl)
      simp only [List.setIfInBounds_toArray, List.set_cons_zero, List.set_cons_succ]
      refine wpAnyH_ready (rs := [7]) (by kernel_rfl) (by simp) ?_
      refine AllReadyH.cons rfl (fun K hK => ?_) AllReadyH.nil
      go_simp
      refine (implNone_c L _ on _ (hv5.kept hS1) (by have := HN.out; omega) (by omega) (fun x hx => by have := hon x hx; omega)).mono ?_
      rintro e w7 ⟨rfl, k7⟩
      rw [HC.out, show decide (C = 0) = false from HR2.out]
      refine hK.out _ _ ?_ (fun hS2 => ?_)
      · exact hS1.trans0 k7
      clear hK K
      (try simp only [Act.put, List.setIfInBounds_toArray, List.set_cons_zero, List.set_cons_succ])
      refine takeD 10 29 (v := ?_) rfl rfl (by kernel_rfl) (by kernel_rfl) (by kernel_rfl) (fun _ _ _ h => h) (Or.inl ⟨by kernel_rfl, ?_⟩) hS2 ?_
      rotate_left 1
      · (intro w' hw'; (try dsimp only at hw'); go_simp; try with_reducible rfl)
      simp only [List.setIfInBounds_toArray, List.set_cons_zero, List.set_cons_succ]
      refine takeD 11 30 (v := ?_) rfl rfl (by kernel_rfl) (by kernel_rfl) (by kernel_rfl) (fun _ _ _ h => h) (Or.inl ⟨by kernel_rfl, ?_⟩) hS2 ?_
      rotate_left 1
      · (intro w' hw'; (try dsimp only at hw'); go_simp; try with_reducible rfl)
      simp only [List.setIfInBounds_toArray, List.set_cons_zero, List.set_cons_succ]
      refine takeD 12 31 (v := ?_) rfl rfl (by kernel_rfl) (by kernel_rfl) (by kernel_rfl) (fun _ _ _ h => h) (Or.inl ⟨by kernel_rfl, ?_⟩) hS2 ?_
      rotate_left 1
      · (intro w' hw'; (try dsimp only at hw'); go_simp; try with_reducible rfl)
      simp only [List.setIfInBounds_toArray, List.set_cons_zero, List.set_cons_succ]
      refine takeD 13 32 (v := ?_) rfl rfl (by kernel_rfl) (by kernel_rfl) (by kernel_rfl) (fun _ _ _ h => h) (Or.inl ⟨by kernel_rfl, ?_⟩) hS2 ?_
      rotate_left 1
      · (intro w' hw'; (try dsimp only at hw'); go_simp; try with_reducible rfl)
      simp only [List.setIfInBounds_toArray, List.set_cons_zero, List.set_cons_succ]
      refine takeD 15 34 (v := ?_) rfl rfl (by kernel_rfl) (by kernel_rfl) (by kernel_rfl) (fun _ _ _ h => h) (Or.inl ⟨by kernel_rfl, ?_⟩) hS2 ?_
      rotate_left 1
      · (intro w' hw'; (try dsimp only at hw'); go_simp; try with_reducible rfl)
      simp only [List.setIfInBounds_toArray, List.set_cons_zero, List.set_cons_succ]
      refine takeD 16 35 (v := ?_) rfl rfl (by kernel_rfl) (by kernel_rfl) (by kernel_rfl) (fun _ _ _ h => h) (Or.inl ⟨by kernel_rfl, ?_⟩) hS2 ?_
      rotate_left 1
      · (intro w' hw'; (try dsimp only at hw'); go_simp; try with_reducible rfl)
      simp only [List.setIfInBounds_toArray, List.set_cons_zero, List.set_cons_succ]
      refine takeD 17 36 (v := ?_) rfl rfl (by kernel_rfl) (by kernel_rfl) (by kernel_rfl) (fun _ _ _ h => h) (Or.inl ⟨by kernel_rfl, ?_⟩) hS2 ?_
      rotate_left 1
      · (intro w' hw'; (try dsimp only at hw'); go_simp; try with_reducible rfl)
      simp only [List.setIfInBounds_toArray, List.set_cons_zero, List.set_cons_succ]
      refine takeD 18 37 (v := ?_) rfl rfl (by kernel_rfl) (by kernel_rfl) (by kernel_rfl) (fun _ _ _ h => h) (Or.inl ⟨by kernel_rfl, ?_⟩) hS2 ?_
      rotate_left 1
      · (intro w' hw'; (try dsimp only at hw'); go_simp; try with_reducible rfl)
      simp only [List.setIfInBounds_toArray, List.set_cons_zero, List.set_cons_succ]
      refine takeD 19 38 (v := ?_) rfl rfl (by kernel_rfl) (by kernel_rfl) (by kernel_rfl) (fun _ _ _ h => h) (Or.inl ⟨by kernel_rfl, ?_⟩) hS2 ?_
      rotate_left 1
      · (intro w' hw'; (try dsimp only at hw'); go_simp; try with_reducible rfl)
      simp only [List.setIfInBounds_toArray, List.set_cons_zero, List.set_cons_succ]
      refine wpAnyH_ready (rs := [14]) (by kernel_rfl) (by simp) ?_
      refine AllReadyH.cons rfl (fun K hK => ?_) AllReadyH.nil
      go_simp
      refine (implAll_c L _ on _ (hv5.kept hS2) (by have := HN.out; omega) (by omega) (fun x hx => by have := hon x hx; omega)).mono ?_
      rintro e w8 ⟨rfl, k8⟩
      rw [HC.out, HN.out, show decide (C = N) = false from HR3.out]
      refine hK.out _ _ ?_ (fun hS3 => ?_)
      · exact hS2.trans0 k8
      clear hK K
      (try simp only [Act.put, List.setIfInBounds_toArray, List.set_cons_zero, List.set_cons_succ])
      refine takeD 20 39 (v := ?_) rfl rfl (by kernel_rfl) (by kernel_rfl) (by kernel_rfl) (fun _ _ _ h => h) (Or.inl ⟨by kernel_rfl, ?_⟩) hS3 ?_
      rotate_left 1
      · (intro w' hw'; (try dsimp only at hw'); go_simp; try with_reducible rfl)
      simp only [List.setIfInBounds_toArray, List.set_cons_zero, List.set_cons_succ]
      refine takeD 21 40 (v := ?_) rfl rfl (by kernel_rfl) (by kernel_rfl) (by kernel_rfl) (fun _ _ _ h => h) (Or.inl ⟨by kernel_rfl, ?_⟩) hS3 ?_
      rotate_left 1
      · (intro w' hw'; (try dsimp only at hw'); go_simp; try with_reducible rfl)
      simp only [List.setIfInBounds_toArray, List.set_cons_zero, List.set_cons_succ]
      refine takeD 22 2 (v := ?_) rfl rfl (by kernel_rfl) (by kernel_rfl) (by kernel_rfl) (fun _ _ _ h => h) (Or.inl ⟨by kernel_rfl, ?_⟩) hS3 ?_
      rotate_left 1
      · (intro w' hw'; (try dsimp only at hw'); go_simp; try with_reducible rfl)
      simp only [List.setIfInBounds_toArray, List.set_cons_zero, List.set_cons_succ]
      refine wpAnyH_done (by kernel_rfl) ?_ _
      go_wp2
      go_ret
      exact ⟨by simp, kW.trans0 hS3⟩

theorem fnAny_c (L : Int) (v : Value) (zs : List Int) (w : World) (hv : IntsZ w v zs) (hlen : zs.length ≤ 9223372036854775807) (hL : -9223372036854775808 ≤ L) (hL2 : L ≤ 9223372036854775807) :
    Calls Try.prog 10 #[.agg #[.int .i64 L, v]] w fun e w' => e = .returned (.bool true) ∧ Kept [] w w' := by
  by_cases hg : Good L zs
  · have hg0 := hg
    have hg1 := hg
    obtain ⟨Ln, on, rfl, q1, q2, q3, q4⟩ := hv.good hg1
    exact fnAny_good Ln v on w q4 q1 q2 q3
  · exact fnAny_bad L v zs w hv hlen hL hL2 hg

open Go.ChangeShapes Go.WideShapes Go.ChangeAt Go.Joins

set_option maxRecDepth 100000 in
theorem fnAny_lifted (os : Os) (started : os.Started) (H : Type) (enc : TypeId × Value → H) :
    ReturnsInHanded {} Try.checked os 10 .any (Rows.fnAnySpec.pre6 enc Try.prog Try.f10 Rows.fnAnyRow.domain false) (Rows.fnAnySpec.post enc Try.prog Try.f10 false true false false) := by
  refine returnsInHanded_of_change (C := Try.checked) Try.own started (by kernel_rfl) Try.func10
    (ChangeSpec.witness6 (enc := enc) (C := Try.checked) false ⟨#[], #[.agg #[.int .i64 0, .slice none 0 0]], []⟩ 8 (by kernel_rfl) (by kernel_rfl) (by kernel_rfl) (by kernel_rfl)) ?_
  intro W base args ds gs before hval0 hW _ _
  have hval : ∀ (j : Nat) t v, Try.f10.params[j]? = some t → args[j]? = some v → Value.okWide Try.prog W .any base t v := hval0
  have hW' := hW
  obtain ⟨p0, q, hA0, hV, rfl, _, _⟩ := hW
  have hA : DataW.TrodAll enc Try.prog W 0 (fun _ => true) true Try.f10.params.toList args.toList ds p0 := hA0
  rw [Try.params10] at hA hval
  obtain ⟨v0, d0, rfl, rfl, h0⟩ := trodAll_one hA
  obtain ⟨rfl, rfl⟩ := trodVars_none hV
  obtain ⟨L0, s0, zs0, rfl, hz0, hlen0, hL0, hR0⟩ := bits_read (hval 0 24 v0 rfl rfl) h0
  clear hA0 hval0
  simp only [List.append_nil] at hW'
  have hlt0 : ∀ x ∈ p0, x.block < W.heap.size := fun x hx => by simpa using hW'.lt x hx
  refine (fnAny_c L0 s0 zs0 W hz0 hlen0 hL0 hR0).mono fun e W' ⟨he, hk⟩ => ?_
  subst he
  have hb := hk.below
  refine ⟨_, rfl, _, _, _, [], p0, [], hW', ?_, ?_, rfl, hb.frame _, fun h => by cases h⟩
  · exact trodAll_mk1 (shut_bool Try.underlying4 true)
  · exact trodAll_mk1 (Below.trod Try.laidOut (by kernel_rfl) (of_decide_eq_true (by kernel_rfl)) h0 hb hlt0)

theorem fnAny_holds : Rows.FnAnySaid :=
  OpenClaim.holds_of_wide 10 Try.f10 rfl rfl rfl rfl rfl rfl rfl ⟨rfl, rfl, rfl, rfl, rfl⟩ rfl rfl rfl rfl rfl (by kernel_rfl) Try.func10 (by kernel_rfl)
    (of_decide_eq_true (by kernel_rfl)) (by unfold Func.isWrapper; first | (rw [if_pos (by decide +kernel)]; kernel_rfl) | (rw [if_neg (by decide +kernel)]; exact ⟨rfl, rfl⟩))
    (fun os started H enc _ => fnAny_lifted os started H enc)

end Go.Proofs.Ytdngkdidelogbaa

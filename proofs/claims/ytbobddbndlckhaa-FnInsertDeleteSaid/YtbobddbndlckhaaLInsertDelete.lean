/-
  laws.FnInsertDelete: what is inserted can be deleted again, and the set is long enough in between: for every input.
-/
import Derived.Test.YtbobddbndlckhaaIInsertAt
import Derived.Test.YtbobddbndlckhaaIDeleteAt
import Derived.Test.YtbobddbndlckhaaMemo
namespace Go.Proofs.Ytbobddbndlckhaa
set_option linter.unusedSimpArgs false
set_option linter.unusedVariables false
open Go.RowKit

set_option maxHeartbeats 1000000 in
set_option linter.unusedVariables false in
theorem fnInsertDelete_bad (L : Int) (i : Int) (v : Value) (zs : List Int) (w : World) (hv : IntsZ w v zs) (hlen : zs.length ≤ 9223372036854775807) (hL : -9223372036854775808 ≤ L) (hL2 : L ≤ 9223372036854775807) (hb : ¬ (Good L zs ∧ 0 ≤ i ∧ i ≤ 2500)) :
    Calls Try.prog 14 #[.agg #[.int .i64 L, v], .int .i64 i] w fun e w' => e = .returned (.bool true) ∧ Kept [] w w' := by
  have k0 : Kept [] w (w.alloc (.cells #[.int .i64 L, v] 24)) := (Kept.refl _ _).alloc _
  have g0 : (w.alloc (.cells #[.int .i64 L, v] 24)).heap[w.heap.size]? = some (.cells #[.int .i64 L, v] 24 (0, 0)) := heap_alloc_new w _
  obtain ⟨ad, m, cap, rfl⟩ : ∃ ad m cap, v = .slice ad m cap := by
    rcases hv with ⟨ad, cap, h3, h4⟩ | ⟨b, off, cap, h3, _, _⟩ <;> exact ⟨_, _, _, h3⟩
  by_cases hm : m ≤ 2147483647
  · have hd : decide (m ≤ 2147483647) = true := by simpa using hm
    by_cases hg : Good L zs
    · obtain ⟨Ln, on, rfl, q1, q2, q3, q4⟩ := hv.good hg
      have hi : ¬ (0 ≤ i ∧ i ≤ 2500) := fun h => hb ⟨hg, h⟩
      have hdi : (decide (0 ≤ i) && decide (i ≤ 2500)) = false := by simp; omega
      clear hb hg
      go_enter Try.func14, Try.ntmps14
      go_wp2_with fail
      refine (zz_c Ln ad m cap _).mono ?_
      rintro e w1 ⟨rfl, k1⟩
      have c0 : w1.cell? ⟨w.heap.size, 0, none⟩ = some (.int .i64 Ln) := (cell_of_heap (k1.heap (by simp) g0)).trans rfl
      have c1 : w1.cell? ⟨w.heap.size, 1, none⟩ = some (.slice ad m cap) := (cell_of_heap (k1.heap (by simp) g0)).trans rfl
      rw [hd]
      go_wp2_with fail
      refine (setGood_c Ln _ on _ (q4.kept (k0.trans0 k1)) q1 q2 q3).mono ?_
      rintro e w2 ⟨s, rfl, hs, k2⟩
      obtain ⟨b, c, rfl⟩ := hs.shape
      go_wp2_with fail
      refine (fits_c i _).mono ?_
      rintro e w3 ⟨rfl, rfl⟩
      rw [hdi]
      go_wp2_with fail
      go_ret
      exact ⟨rfl, (((k0.trans0 k1).trans0 k2).alloc _)⟩
    · clear hb
      go_enter Try.func14, Try.ntmps14
      go_wp2_with fail
      refine (zz_c L ad m cap _).mono ?_
      rintro e w1 ⟨rfl, k1⟩
      have c0 : w1.cell? ⟨w.heap.size, 0, none⟩ = some (.int .i64 L) := (cell_of_heap (k1.heap (by simp) g0)).trans rfl
      have c1 : w1.cell? ⟨w.heap.size, 1, none⟩ = some (.slice ad m cap) := (cell_of_heap (k1.heap (by simp) g0)).trans rfl
      rw [hd]
      go_wp2_with fail
      refine (setBad_c L _ zs _ (hv.kept (k0.trans0 k1)) hg hlen hL hL2).mono ?_
      rintro e w2 ⟨rfl, k2⟩
      go_wp2_with fail
      go_ret
      exact ⟨rfl, (((k0.trans0 k1).trans0 k2).alloc _)⟩
  · have hd : decide (m ≤ 2147483647) = false := by simpa using hm
    clear hb
    go_enter Try.func14, Try.ntmps14
    go_wp2_with fail
    refine (zz_c L ad m cap _).mono ?_
    rintro e w1 ⟨rfl, k1⟩
    rw [hd]
    go_wp2_with fail
    go_ret
    exact ⟨rfl, k0.trans0 k1⟩

set_option maxHeartbeats 2000000 in
set_option linter.unusedVariables false in
theorem fnInsertDelete_good (L : Nat) (i : Nat) (v : Value) (on : List Nat) (w : World) (hv : IntsAt w v on) (hL : L ≤ 2000) (hlen : on.length ≤ 400) (hon : ∀ x ∈ on, x < 2500) (hi : i ≤ 2500) (hin : i < lenOf L on) :
    Calls Try.prog 14 #[.agg #[.int .i64 L, v], .int .i64 i] w fun e w' => e = .returned (.bool true) ∧ Kept [] w w' := by
  have k0 : Kept [] w (w.alloc (.cells #[.int .i64 L, v] 24)) := (Kept.refl _ _).alloc _
  have g0 : (w.alloc (.cells #[.int .i64 L, v] 24)).heap[w.heap.size]? = some (.cells #[.int .i64 L, v] 24 (0, 0)) := heap_alloc_new w _
  obtain ⟨ad, cap, rfl⟩ := hv.shape
  have hd : decide (on.length ≤ 2147483647) = true := by simp; omega
  have hdi : (decide ((0 : Int) ≤ i) && decide ((i : Int) ≤ 2500)) = true := by simp; omega
  have hln := lenOf_le L on 2500 (by omega) hon
  go_enter Try.func14, Try.ntmps14
  go_wp2_with fail
  refine (zz_c L ad on.length cap _).mono ?_
  rintro e w1 ⟨rfl, k1⟩
  have h1 := k1.heap (by simp) g0
  have c0 : w1.cell? ⟨w.heap.size, 0, none⟩ = some (.int .i64 L) := (cell_of_heap h1).trans rfl
  have c1 : w1.cell? ⟨w.heap.size, 1, none⟩ = some (.slice ad on.length cap) := (cell_of_heap h1).trans rfl
  rw [hd]
  go_wp2_with fail
  refine (setGood_c L _ on _ (hv.kept (k0.trans0 k1)) hL hlen hon).mono ?_
  rintro e w2 ⟨s, rfl, hs, k2⟩
  obtain ⟨b, c, rfl⟩ := hs.shape
  have hlt2 := lt_of_heap (k2.heap (by simp) h1)
  clear c0 c1
  go_wp2_with fail
  refine (fits_c i _).mono ?_
  rintro e w3 ⟨rfl, rfl⟩
  rw [hdi]
  have hin2 : ¬ ((lenOf L on : Nat) : Int) ≤ (i : Int) := by omega
  have hin3 : ¬ lenOf L on ≤ i := by omega
  have h2a := k2.heap (by simp) h1
  have d0 : w2.cell? ⟨w.heap.size, 0, none⟩ = some (.int .i64 L) := (cell_of_heap h2a).trans rfl
  have d1 : w2.cell? ⟨w.heap.size, 1, none⟩ = some (.slice ad on.length cap) := (cell_of_heap h2a).trans rfl
  go_wp2_with fail
  have hs5 := hs.kept ((Kept.refl _ _).alloc (.cells #[.slice (some ⟨b, 0, none⟩) (lenOf L on) c, .bool true] 28))
  have k3 : Kept [] w2 (w2.alloc (.cells #[.slice (some ⟨b, 0, none⟩) (lenOf L on) c, .bool true] 28)) := (Kept.refl _ _).alloc _
  have gB := heap_alloc_new w2 (.cells #[.slice (some ⟨b, 0, none⟩) (lenOf L on) c, .bool true] 28)
  have hv5 := hv.kept (((k0.trans0 k1).trans0 k2).trans0 k3)
  have kW := ((k0.trans0 k1).trans0 k2).trans0 k3
  clear hs k1 h1 g0 k0
  obtain ⟨N, hN⟩ : ∃ N, lenOf L on = N := ⟨_, rfl⟩
  rw [hN] at hs5 gB hln kW hv5 k3 ⊢
  have HN := Lib.hid hN; clear hN
  refine (implInsertAt_c L i _ on _ hv5 (by omega) (by omega) (fun x hx => by have := hon x hx; omega) hi (by have := HN.out; omega)).mono ?_
  rintro e w6 ⟨M6, v6, rfl, hM6', hM6b, hv6, k6⟩
  have hM6 := Lib.hid hM6'; clear hM6'
  obtain ⟨ad6, cap6, rfl⟩ := hv6.shape
  have hlen6 := onL_le (lenOf L on + 1) (fun j => if j < i then memOf on j else !(j == i) && memOf on (j - 1))
  generalize hl6 : (onL (lenOf L on + 1) (fun j => if j < i then memOf on j else !(j == i) && memOf on (j - 1))).length = len6 at *
  have HL6 := Lib.hid hl6; clear hl6
  have gB6 := k6.heap (by simp) gB
  have g7 := heap_alloc_new w6 (.cells #[.int .i64 M6, .slice ad6 len6 cap6] 24)
  have k7 : Kept [] w6 (w6.alloc (.cells #[.int .i64 M6, .slice ad6 len6 cap6] 24)) := (Kept.refl _ _).alloc _
  have gB7 := k7.heap (by simp) gB6
  have hs7 := (hs5.kept k6).kept k7
  have hv7 := hv6.kept k7
  have kV := (kW.trans0 k6).trans0 k7
  go_wp2_with fail
  generalize (w6.alloc (.cells #[.int .i64 M6, .slice ad6 len6 cap6] 24)) = W at *
  have A0 : ∀ w', Kept [] W w' → w'.cell? ⟨w6.heap.size, 0, none⟩ = some (.int .i64 M6) := fun w' k => (cell_of_heap (k.heap (by simp) g7)).trans rfl
  have A1 : ∀ w', Kept [] W w' → w'.cell? ⟨w6.heap.size, 1, none⟩ = some (.slice ad6 len6 cap6) := fun w' k => (cell_of_heap (k.heap (by simp) g7)).trans rfl
  have B0 : ∀ w', Kept [] W w' → w'.cell? ⟨w2.heap.size, 0, none⟩ = some (.slice (some ⟨b, 0, none⟩) N c) := fun w' k => (cell_of_heap (k.heap (by simp) gB7)).trans rfl
  have B1 : ∀ w', Kept [] W w' → w'.cell? ⟨w2.heap.size, 1, none⟩ = some (.bool true) := fun w' k => (cell_of_heap (k.heap (by simp) gB7)).trans rfl
  clear gB g7 gB6 gB7 hs5 hv5 hv6 k6 k7 kW k3 k2
  have hM6n : i < M6 ∧ M6 ≤ 2501 := by have h1 := hM6.out; have h2 := HN.out; omega
  have hgt : decide ((i : Int) < (M6 : Int)) = true := by simp; omega
  refine wp_region_held_drew (S := fun w' => Kept [] W w') (by kernel_rfl) (Kept.refl _ _).drew (fun hS => ?_)
  refine takeD 0 31 (v := ?_) rfl rfl (by kernel_rfl) (by kernel_rfl) (by kernel_rfl) (fun _ _ _ h => h) (Or.inl ⟨by kernel_rfl, ?_⟩) hS ?_
  rotate_left 1
  · (intro w' hw'; (try dsimp only at hw'); go_simp; try with_reducible rfl)
  simp only [List.setIfInBounds_toArray, List.set_cons_zero, List.set_cons_succ]
  refine takeD 1 32 (v := ?_) rfl rfl (by kernel_rfl) (by kernel_rfl) (by kernel_rfl) (fun _ _ _ h => h) (Or.inl ⟨by kernel_rfl, ?_⟩) hS ?_
  rotate_left 1
  · (intro w' hw'; (try dsimp only at hw'); go_simp; try with_reducible rfl)
  simp only [List.setIfInBounds_toArray, List.set_cons_zero, List.set_cons_succ]
  refine takeD 3 34 (v := ?_) rfl rfl (by kernel_rfl) (by kernel_rfl) (by kernel_rfl) (fun _ _ _ h => h) (Or.inl ⟨by kernel_rfl, ?_⟩) hS ?_
  rotate_left 1
  · (intro w' hw'; (try dsimp only at hw'); go_simp; try with_reducible rfl)
  simp only [List.setIfInBounds_toArray, List.set_cons_zero, List.set_cons_succ]
  refine wpAnyH_ready (rs := [2]) (by kernel_rfl) (by simp) ?_
  refine AllReadyH.cons rfl (fun K hK => ?_) AllReadyH.nil
  go_simp
  refine (implDeleteAt_c M6 i _ (onL (lenOf L on + 1) (fun j => if j < i then memOf on j else !(j == i) && memOf on (j - 1))) _ (hv7.kept hS) (by omega) (by rw [HL6.out]; have := HN.out; omega) (fun x hx => by have := onL_lt _ _ x hx; have := HN.out; omega) hi (by rw [lenOf_onL _ _ _ (by have := hM6.out; omega)]; have := hM6.out; have := HN.out; omega)).mono ?_
  rintro e w8 ⟨M8, v8, rfl, hM8', hM8b, hv8, k8⟩
  have hM8 := Lib.hid hM8'; clear hM8'
  refine hK.out _ _ ?_ (fun hS1 => ?_)
  · exact hS.trans0 k8
  clear hK K
  (try simp only [Act.put, List.setIfInBounds_toArray, List.set_cons_zero, List.set_cons_succ])
  refine wpAnyH_ready (rs := [4]) (by kernel_rfl) (by simp) ?_
  refine AllReadyH.cons rfl (fun K hK => ?_) AllReadyH.nil
  go_simp
  have hE : onL (lenOf M6 (onL (lenOf L on + 1) (fun j => if j < i then memOf on j else !(j == i) && memOf on (j - 1))) - 1) (fun j => if j < i then memOf (onL (lenOf L on + 1) (fun j => if j < i then memOf on j else !(j == i) && memOf on (j - 1))) j else memOf (onL (lenOf L on + 1) (fun j => if j < i then memOf on j else !(j == i) && memOf on (j - 1))) (j + 1)) = onL N (memOf on) := by
    have h1 := hM6.out
    rw [lenOf_onL _ _ _ (by omega), ← HN.out]
    refine onL_ext _ _ _ _ (by omega) (fun j hj => ?_) (fun j h2 h3 => by omega)
    rw [memOf_onL, memOf_onL]
    by_cases e : j < i
    · rw [if_pos e, if_pos e, decide_eq_true (show j < lenOf L on + 1 by omega), Bool.true_and]
    · rw [if_neg e, if_neg (show ¬ j + 1 < i by omega), decide_eq_true (show j + 1 < lenOf L on + 1 by omega), beq_eq_false_iff_ne.2 (show ¬ j + 1 = i by omega), show j + 1 - 1 = j by omega]; simp
  rw [hE] at hv8
  have hEq := hv8
  refine (alike_c M8 v8 _ N (memOf on) true _ hEq (hs7.kept hS1) (by omega)).mono ?_
  rintro e w9 ⟨rfl, k9⟩
  refine hK.out _ _ ?_ (fun hS2 => ?_)
  · exact hS1.trans0 k9
  clear hK K
  (try simp only [Act.put, List.setIfInBounds_toArray, List.set_cons_zero, List.set_cons_succ])
  refine takeD 5 36 (v := ?_) rfl rfl (by kernel_rfl) (by kernel_rfl) (by kernel_rfl) (fun _ _ _ h => h) (Or.inl ⟨by kernel_rfl, ?_⟩) hS2 ?_
  rotate_left 1
  · (intro w' hw'; (try dsimp only at hw'); go_simp; try with_reducible rfl)
  simp only [List.setIfInBounds_toArray, List.set_cons_zero, List.set_cons_succ]
  refine takeD 6 37 (v := ?_) rfl rfl (by kernel_rfl) (by kernel_rfl) (by kernel_rfl) (fun _ _ _ h => h) (Or.inl ⟨by kernel_rfl, ?_⟩) hS2 ?_
  rotate_left 1
  · (intro w' hw'; (try dsimp only at hw'); go_simp; try with_reducible rfl)
  simp only [List.setIfInBounds_toArray, List.set_cons_zero, List.set_cons_succ]
  refine takeD 7 38 (v := ?_) rfl rfl (by kernel_rfl) (by kernel_rfl) (by kernel_rfl) (fun _ _ _ h => h) (Or.inl ⟨by kernel_rfl, ?_⟩) hS2 ?_
  rotate_left 1
  · (intro w' hw'; (try dsimp only at hw'); go_simp; try with_reducible rfl)
  simp only [List.setIfInBounds_toArray, List.set_cons_zero, List.set_cons_succ]
  refine takeD 8 39 (v := ?_) rfl rfl (by kernel_rfl) (by kernel_rfl) (by kernel_rfl) (fun _ _ _ h => h) (Or.inl ⟨by kernel_rfl, ?_⟩) hS2 ?_
  rotate_left 1
  · (intro w' hw'; (try dsimp only at hw'); go_simp; try with_reducible rfl)
  simp only [List.setIfInBounds_toArray, List.set_cons_zero, List.set_cons_succ]
  refine takeD 9 40 (v := ?_) rfl rfl (by kernel_rfl) (by kernel_rfl) (by kernel_rfl) (fun _ _ _ h => h) (Or.inl ⟨by kernel_rfl, ?_⟩) hS2 ?_
  rotate_left 1
  · (intro w' hw'; (try dsimp only at hw'); go_simp; try with_reducible rfl)
  simp only [List.setIfInBounds_toArray, List.set_cons_zero, List.set_cons_succ]
  refine takeD 10 41 (v := ?_) rfl rfl (by kernel_rfl) (by kernel_rfl) (by kernel_rfl) (fun _ _ _ h => h) (Or.inl ⟨by kernel_rfl, ?_⟩) hS2 ?_
  rotate_left 1
  · (intro w' hw'; (try dsimp only at hw'); go_simp; try with_reducible rfl)
  simp only [List.setIfInBounds_toArray, List.set_cons_zero, List.set_cons_succ]
  refine takeD 11 4 (v := ?_) rfl rfl (by kernel_rfl) (by kernel_rfl) (by kernel_rfl) (fun _ _ _ h => h) (Or.inl ⟨by kernel_rfl, ?_⟩) hS2 ?_
  rotate_left 1
  · (intro w' hw'; (try dsimp only at hw'); go_simp; try with_reducible rfl)
  simp only [List.setIfInBounds_toArray, List.set_cons_zero, List.set_cons_succ]
  refine wpAnyH_done (by kernel_rfl) ?_ _
  go_wp2
  go_ret
  exact ⟨by simp, kV.trans0 hS2⟩

set_option maxHeartbeats 2000000 in
set_option linter.unusedVariables false in
theorem fnInsertDelete_un (L : Nat) (i : Nat) (v : Value) (on : List Nat) (w : World) (hv : IntsAt w v on) (hL : L ≤ 2000) (hlen : on.length ≤ 400) (hon : ∀ x ∈ on, x < 2500) (hi : i ≤ 2500) (hin : lenOf L on ≤ i) :
    Calls Try.prog 14 #[.agg #[.int .i64 L, v], .int .i64 i] w fun e w' => e = .returned (.bool true) ∧ Kept [] w w' := by
  have k0 : Kept [] w (w.alloc (.cells #[.int .i64 L, v] 24)) := (Kept.refl _ _).alloc _
  have g0 : (w.alloc (.cells #[.int .i64 L, v] 24)).heap[w.heap.size]? = some (.cells #[.int .i64 L, v] 24 (0, 0)) := heap_alloc_new w _
  obtain ⟨ad, cap, rfl⟩ := hv.shape
  have hd : decide (on.length ≤ 2147483647) = true := by simp; omega
  have hdi : (decide ((0 : Int) ≤ i) && decide ((i : Int) ≤ 2500)) = true := by simp; omega
  have hln := lenOf_le L on 2500 (by omega) hon
  go_enter Try.func14, Try.ntmps14
  go_wp2_with fail
  refine (zz_c L ad on.length cap _).mono ?_
  rintro e w1 ⟨rfl, k1⟩
  have h1 := k1.heap (by simp) g0
  have c0 : w1.cell? ⟨w.heap.size, 0, none⟩ = some (.int .i64 L) := (cell_of_heap h1).trans rfl
  have c1 : w1.cell? ⟨w.heap.size, 1, none⟩ = some (.slice ad on.length cap) := (cell_of_heap h1).trans rfl
  rw [hd]
  go_wp2_with fail
  refine (setGood_c L _ on _ (hv.kept (k0.trans0 k1)) hL hlen hon).mono ?_
  rintro e w2 ⟨s, rfl, hs, k2⟩
  obtain ⟨b, c, rfl⟩ := hs.shape
  have hlt2 := lt_of_heap (k2.heap (by simp) h1)
  clear c0 c1
  go_wp2_with fail
  refine (fits_c i _).mono ?_
  rintro e w3 ⟨rfl, rfl⟩
  rw [hdi]
  have hin2 : ((lenOf L on : Nat) : Int) ≤ (i : Int) := by omega
  go_wp2_with fail
  go_ret
  exact ⟨rfl, ((k0.trans0 k1).trans0 k2).alloc _⟩

theorem fnInsertDelete_c (L : Int) (i : Int) (v : Value) (zs : List Int) (w : World) (hv : IntsZ w v zs) (hlen : zs.length ≤ 9223372036854775807) (hL : -9223372036854775808 ≤ L) (hL2 : L ≤ 9223372036854775807) :
    Calls Try.prog 14 #[.agg #[.int .i64 L, v], .int .i64 i] w fun e w' => e = .returned (.bool true) ∧ Kept [] w w' := by
  by_cases hg : Good L zs ∧ 0 ≤ i ∧ i ≤ 2500
  · have hg0 := hg
    obtain ⟨hg1, pi, ri⟩ := hg
    obtain ⟨Ln, on, rfl, q1, q2, q3, q4⟩ := hv.good hg1
    obtain ⟨i, rfl⟩ := Int.eq_ofNat_of_zero_le pi
    by_cases hin : i < lenOf Ln on
    · exact fnInsertDelete_good Ln i v on w q4 q1 q2 q3 (by omega) hin
    · exact fnInsertDelete_un Ln i v on w q4 q1 q2 q3 (by omega) (by omega)
  · exact fnInsertDelete_bad L i v zs w hv hlen hL hL2 hg

open Go.ChangeShapes Go.WideShapes Go.ChangeAt Go.Joins

set_option maxRecDepth 100000 in
theorem fnInsertDelete_lifted (os : Os) (started : os.Started) (H : Type) (enc : TypeId × Value → H) :
    ReturnsInHanded {} Try.checked os 14 .any (Rows.fnInsertDeleteSpec.pre6 enc Try.prog Try.f14 Rows.fnInsertDeleteRow.domain false) (Rows.fnInsertDeleteSpec.post enc Try.prog Try.f14 false true false false) := by
  refine returnsInHanded_of_change (C := Try.checked) Try.own started (by kernel_rfl) Try.func14
    (ChangeSpec.witness6 (enc := enc) (C := Try.checked) false ⟨#[], #[.agg #[.int .i64 0, .slice none 0 0], .int .i64 0], []⟩ 8 (by kernel_rfl) (by kernel_rfl) (by kernel_rfl) (by kernel_rfl)) ?_
  intro W base args ds gs before hval0 hW _ _
  have hval : ∀ (j : Nat) t v, Try.f14.params[j]? = some t → args[j]? = some v → Value.okWide Try.prog W .any base t v := hval0
  have hW' := hW
  obtain ⟨p, q, hA0, hV, rfl, _, _⟩ := hW
  have hA : DataW.TrodAll enc Try.prog W 0 (fun _ => true) true Try.f14.params.toList args.toList ds p := hA0
  rw [Try.params14] at hA hval
  obtain ⟨v0, v1, d0, d1, p0, p1, rfl, rfl, rfl, h0, h1⟩ := trodAll_two hA
  obtain ⟨rfl, rfl⟩ := trodVars_none hV
  obtain ⟨i, rfl, rfl, rfl, wi1⟩ := open_int Try.underlying3 (hval 1 3 v1 rfl rfl) h1
  obtain ⟨L0, s0, zs0, rfl, hz0, hlen0, hL0, hR0⟩ := bits_read (hval 0 24 v0 rfl rfl) h0
  clear hA0 hval0
  simp only [List.append_nil] at hW'
  have hlt0 : ∀ x ∈ p0, x.block < W.heap.size := fun x hx => by simpa using hW'.lt x hx
  refine (fnInsertDelete_c L0 i s0 zs0 W hz0 hlen0 hL0 hR0).mono fun e W' ⟨he, hk⟩ => ?_
  subst he
  have hb := hk.below
  refine ⟨_, rfl, _, _, _, [], p0 ++ [], [], hW', ?_, ?_, rfl, hb.frame _, fun h => by cases h⟩
  · exact trodAll_mk1 (shut_bool Try.underlying4 true)
  · exact trodAll_mk2 (Below.trod Try.laidOut (by kernel_rfl) (of_decide_eq_true (by kernel_rfl)) h0 hb hlt0) (shut_int Try.underlying3 wi1)

theorem fnInsertDelete_holds : Rows.FnInsertDeleteSaid :=
  OpenClaim.holds_of_wide 14 Try.f14 rfl rfl rfl rfl rfl rfl rfl ⟨rfl, rfl, rfl, rfl, rfl⟩ rfl rfl rfl rfl rfl (by kernel_rfl) Try.func14 (by kernel_rfl)
    (of_decide_eq_true (by kernel_rfl)) (by unfold Func.isWrapper; first | (rw [if_pos (by decide +kernel)]; kernel_rfl) | (rw [if_neg (by decide +kernel)]; exact ⟨rfl, rfl⟩))
    (fun os started H enc _ => fnInsertDelete_lifted os started H enc)

end Go.Proofs.Ytbobddbndlckhaa

/-
  laws.FnShiftBack: for every input.
-/
import Derived.Test.YtiaghdnhapiioaaIShiftLeft
import Derived.Test.YtiaghdnhapiioaaIShiftRight
import Derived.Test.YtiaghdnhapiioaaBackL
import Derived.Test.YtiaghdnhapiioaaKdF
import Derived.Test.YtiaghdnhapiioaaRow
namespace Go.Proofs.Ytiaghdnhapiioaa
set_option linter.unusedSimpArgs false
set_option linter.unusedVariables false
open Go.RowKit

set_option maxHeartbeats 1000000 in
set_option linter.unusedVariables false in
theorem fnShiftBack_bad (L : Int) (i : Int) (v : Value) (zs : List Int) (w : World) (hv : IntsZ w v zs) (hlen : zs.length ≤ 9223372036854775807) (hL : -9223372036854775808 ≤ L) (hL2 : L ≤ 9223372036854775807) (hb : ¬ (Good L zs ∧ 0 ≤ i ∧ i ≤ 2500)) :
    Calls Try.prog 8 #[.agg #[.int .i64 L, v], .int .i64 i] w fun e w' => e = .returned (.bool true) ∧ Kept [] w w' := by
  have k0 : Kept [] w (w.alloc (.cells #[.int .i64 L, v] 24)) := (Kept.refl _ _).alloc _
  have g0 : (w.alloc (.cells #[.int .i64 L, v] 24)).heap[w.heap.size]? = some (.cells #[.int .i64 L, v] 24 (0, 0)) := heap_alloc_new w _
  obtain ⟨ad, m, cap, rfl⟩ : ∃ ad m cap, v = .slice ad m cap := by
    rcases hv with ⟨ad, cap, h3, h4⟩ | ⟨b, off, cap, h3, _, _⟩ <;> exact ⟨_, _, _, h3⟩
  by_cases hm : m ≤ 2147483647
  · have hd : decide (m ≤ 2147483647) = true := by simpa using hm
    by_cases hg : Good L zs
    · obtain ⟨Ln, on, rfl, q1, q2, q3, q4⟩ := hv.good hg
      have hi : ¬ (0 ≤ i ∧ i ≤ 2500) := fun h => hb ⟨hg, h⟩
      have hdi : (decide (0 ≤ i) && decide (i ≤ 2500)) = false := by simp; omega
      clear hb hg
      go_enter Try.func8, Try.ntmps8
      go_wp2_with fail
      refine (zz_c Ln ad m cap _).mono ?_
      rintro e w1 ⟨rfl, k1⟩
      have c0 : w1.cell? ⟨w.heap.size, 0, none⟩ = some (.int .i64 Ln) := (cell_of_heap (k1.heap (by simp) g0)).trans rfl
      have c1 : w1.cell? ⟨w.heap.size, 1, none⟩ = some (.slice ad m cap) := (cell_of_heap (k1.heap (by simp) g0)).trans rfl
      rw [hd]
      go_wp2_with fail
      refine (setGood_c Ln _ on _ (q4.kept (k0.trans0 k1)) q1 q2 q3).mono ?_
      rintro e w2 ⟨s, rfl, hs, k2⟩
      obtain ⟨b, c, rfl⟩ := hs.shape
      go_wp2_with fail
      refine (fits_c i _).mono ?_
      rintro e w3 ⟨rfl, rfl⟩
      rw [hdi]
      go_wp2_with fail
      go_ret
      exact ⟨rfl, (((k0.trans0 k1).trans0 k2).alloc _)⟩
    · clear hb
      go_enter Try.func8, Try.ntmps8
      go_wp2_with fail
      refine (zz_c L ad m cap _).mono ?_
      rintro e w1 ⟨rfl, k1⟩
      have c0 : w1.cell? ⟨w.heap.size, 0, none⟩ = some (.int .i64 L) := (cell_of_heap (k1.heap (by simp) g0)).trans rfl
      have c1 : w1.cell? ⟨w.heap.size, 1, none⟩ = some (.slice ad m cap) := (cell_of_heap (k1.heap (by simp) g0)).trans rfl
      rw [hd]
      go_wp2_with fail
      refine (setBad_c L _ zs _ (hv.kept (k0.trans0 k1)) hg hlen hL hL2).mono ?_
      rintro e w2 ⟨rfl, k2⟩
      go_wp2_with fail
      go_ret
      exact ⟨rfl, (((k0.trans0 k1).trans0 k2).alloc _)⟩
  · have hd : decide (m ≤ 2147483647) = false := by simpa using hm
    clear hb
    go_enter Try.func8, Try.ntmps8
    go_wp2_with fail
    refine (zz_c L ad m cap _).mono ?_
    rintro e w1 ⟨rfl, k1⟩
    rw [hd]
    go_wp2_with fail
    go_ret
    exact ⟨rfl, k0.trans0 k1⟩

set_option maxHeartbeats 2000000 in
set_option linter.unusedVariables false in
theorem fnShiftBack_un (L : Nat) (i : Nat) (v : Value) (on : List Nat) (w : World) (hv : IntsAt w v on) (hL : L ≤ 2000) (hlen : on.length ≤ 400) (hon : ∀ x ∈ on, x < 2500) (hi : i ≤ 2500) (hfar : 0 < lst (memOf on) (lenOf L on) ∧ (lst (memOf on) (lenOf L on) - 1 + i) % 64 = 0) :
    Calls Try.prog 8 #[.agg #[.int .i64 L, v], .int .i64 i] w fun e w' => e = .returned (.bool true) ∧ Kept [] w w' := by
  have k0 : Kept [] w (w.alloc (.cells #[.int .i64 L, v] 24)) := (Kept.refl _ _).alloc _
  have g0 : (w.alloc (.cells #[.int .i64 L, v] 24)).heap[w.heap.size]? = some (.cells #[.int .i64 L, v] 24 (0, 0)) := heap_alloc_new w _
  obtain ⟨ad, cap, rfl⟩ := hv.shape
  have hd : decide (on.length ≤ 2147483647) = true := by simp; omega
  have hdi : (decide ((0 : Int) ≤ i) && decide ((i : Int) ≤ 2500)) = true := by simp; omega
  have hln := lenOf_le L on 2500 (by omega) hon
  go_enter Try.func8, Try.ntmps8
  go_wp2_with fail
  refine (zz_c L ad on.length cap _).mono ?_
  rintro e w1 ⟨rfl, k1⟩
  have h1 := k1.heap (by simp) g0
  have c0 : w1.cell? ⟨w.heap.size, 0, none⟩ = some (.int .i64 L) := (cell_of_heap h1).trans rfl
  have c1 : w1.cell? ⟨w.heap.size, 1, none⟩ = some (.slice ad on.length cap) := (cell_of_heap h1).trans rfl
  rw [hd]
  go_wp2_with fail
  refine (setGood_c L _ on _ (hv.kept (k0.trans0 k1)) hL hlen hon).mono ?_
  rintro e w2 ⟨s, rfl, hs, k2⟩
  obtain ⟨b, c, rfl⟩ := hs.shape
  have hlt2 := lt_of_heap (k2.heap (by simp) h1)
  clear c0 c1
  go_wp2_with fail
  refine (fits_c i _).mono ?_
  rintro e w3 ⟨rfl, rfl⟩
  rw [hdi]
  go_wp2_with fail
  refine (dk6u_c _ (lenOf L on) i (memOf on) true _ (hs.kept ((Kept.refl _ _).alloc _)) (by omega) hfar hi 0 (by omega)).mono ?_
  rintro e w4 ⟨rfl, k4⟩
  go_wp2_with fail
  go_ret
  exact ⟨rfl, ((((((k0.trans0 k1).trans0 k2).alloc _).trans0 k4)).alloc _)⟩

set_option maxHeartbeats 2000000 in
set_option linter.unusedVariables false in
theorem fnShiftBack_un2 (L : Nat) (i : Nat) (v : Value) (on : List Nat) (w : World) (hv : IntsAt w v on) (hL : L ≤ 2000) (hlen : on.length ≤ 400) (hon : ∀ x ∈ on, x < 2500) (hi : i ≤ 2500) (hfar : lst (memOf on) (lenOf L on) = 0 ∨ (lst (memOf on) (lenOf L on) - 1 + i) % 64 ≠ 0) (hfar2 : 0 < lst (fun (j : Nat) => fAt (lenOf L on) (memOf on) ((j : Int) - (i : Int))) (lst (fun (j : Nat) => fAt (lenOf L on) (memOf on) ((j : Int) - (i : Int))) (lenOf L on + i)) ∧ lst (fun (j : Nat) => fAt (lenOf L on) (memOf on) ((j : Int) - (i : Int))) (lst (fun (j : Nat) => fAt (lenOf L on) (memOf on) ((j : Int) - (i : Int))) (lenOf L on + i)) ≤ i + 1) :
    Calls Try.prog 8 #[.agg #[.int .i64 L, v], .int .i64 i] w fun e w' => e = .returned (.bool true) ∧ Kept [] w w' := by
  have k0 : Kept [] w (w.alloc (.cells #[.int .i64 L, v] 24)) := (Kept.refl _ _).alloc _
  have g0 : (w.alloc (.cells #[.int .i64 L, v] 24)).heap[w.heap.size]? = some (.cells #[.int .i64 L, v] 24 (0, 0)) := heap_alloc_new w _
  obtain ⟨ad, cap, rfl⟩ := hv.shape
  have hd : decide (on.length ≤ 2147483647) = true := by simp; omega
  have hdi : (decide ((0 : Int) ≤ i) && decide ((i : Int) ≤ 2500)) = true := by simp; omega
  have hln := lenOf_le L on 2500 (by omega) hon
  go_enter Try.func8, Try.ntmps8
  go_wp2_with fail
  refine (zz_c L ad on.length cap _).mono ?_
  rintro e w1 ⟨rfl, k1⟩
  have h1 := k1.heap (by simp) g0
  have c0 : w1.cell? ⟨w.heap.size, 0, none⟩ = some (.int .i64 L) := (cell_of_heap h1).trans rfl
  have c1 : w1.cell? ⟨w.heap.size, 1, none⟩ = some (.slice ad on.length cap) := (cell_of_heap h1).trans rfl
  rw [hd]
  go_wp2_with fail
  refine (setGood_c L _ on _ (hv.kept (k0.trans0 k1)) hL hlen hon).mono ?_
  rintro e w2 ⟨s, rfl, hs, k2⟩
  obtain ⟨b, c, rfl⟩ := hs.shape
  have hlt2 := lt_of_heap (k2.heap (by simp) h1)
  clear c0 c1
  go_wp2_with fail
  refine (fits_c i _).mono ?_
  rintro e w3 ⟨rfl, rfl⟩
  rw [hdi]
  obtain ⟨G, hG⟩ : ∃ G : Nat → Bool, (fun (j : Nat) => fAt (lenOf L on) (memOf on) ((j : Int) - (i : Int))) = G := ⟨_, rfl⟩
  obtain ⟨m, hm⟩ : ∃ m, lst G (lenOf L on + i) = m := ⟨_, rfl⟩
  have hmb : m ≤ lenOf L on + i := by rw [← hm]; exact lst_le _ _
  go_wp2_with fail
  refine (dk6_c _ (lenOf L on) i (memOf on) true _ (hs.kept ((Kept.refl _ _).alloc _)) (by omega) hfar hi 0 (by omega)).mono ?_
  rintro e w4 ⟨s', rfl, hs', k4⟩
  rw [hG, hm] at hs'
  obtain ⟨b', c', rfl⟩ := hs'.shape
  have HG := Lib.hid hG; have HM := Lib.hid hm; clear hG hm hfar
  rw [HG.out, HM.out] at hfar2
  have k24 : Kept [] w2 w4 := ((Kept.refl _ _).alloc _).trans0 k4
  go_wp2_with fail
  refine (dk7u_c _ m i G false _ (hs'.kept ((Kept.refl _ _).alloc _)) (by omega) hfar2 hi 0 (by omega)).mono ?_
  rintro e w5 ⟨rfl, k5⟩
  go_wp2_with fail
  go_ret
  exact ⟨rfl, ((((((k0.trans0 k1).trans0 k2).trans0 k24).alloc _).trans0 k5).alloc _)⟩

set_option maxHeartbeats 2000000 in
set_option linter.unusedVariables false in
theorem fnShiftBack_good (L : Nat) (i : Nat) (v : Value) (on : List Nat) (w : World) (hv : IntsAt w v on) (hL : L ≤ 2000) (hlen : on.length ≤ 400) (hon : ∀ x ∈ on, x < 2500) (hi : i ≤ 2500) (hfar : lst (memOf on) (lenOf L on) = 0 ∨ (lst (memOf on) (lenOf L on) - 1 + i) % 64 ≠ 0) (hfar2 : lst (fun (j : Nat) => fAt (lenOf L on) (memOf on) ((j : Int) - (i : Int))) (lst (fun (j : Nat) => fAt (lenOf L on) (memOf on) ((j : Int) - (i : Int))) (lenOf L on + i)) = 0 ∨ i + 1 < lst (fun (j : Nat) => fAt (lenOf L on) (memOf on) ((j : Int) - (i : Int))) (lst (fun (j : Nat) => fAt (lenOf L on) (memOf on) ((j : Int) - (i : Int))) (lenOf L on + i))) :
    Calls Try.prog 8 #[.agg #[.int .i64 L, v], .int .i64 i] w fun e w' => e = .returned (.bool true) ∧ Kept [] w w' := by
  have k0 : Kept [] w (w.alloc (.cells #[.int .i64 L, v] 24)) := (Kept.refl _ _).alloc _
  have g0 : (w.alloc (.cells #[.int .i64 L, v] 24)).heap[w.heap.size]? = some (.cells #[.int .i64 L, v] 24 (0, 0)) := heap_alloc_new w _
  obtain ⟨ad, cap, rfl⟩ := hv.shape
  have hd : decide (on.length ≤ 2147483647) = true := by simp; omega
  have hdi : (decide ((0 : Int) ≤ i) && decide ((i : Int) ≤ 2500)) = true := by simp; omega
  have hln := lenOf_le L on 2500 (by omega) hon
  go_enter Try.func8, Try.ntmps8
  go_wp2_with fail
  refine (zz_c L ad on.length cap _).mono ?_
  rintro e w1 ⟨rfl, k1⟩
  have h1 := k1.heap (by simp) g0
  have c0 : w1.cell? ⟨w.heap.size, 0, none⟩ = some (.int .i64 L) := (cell_of_heap h1).trans rfl
  have c1 : w1.cell? ⟨w.heap.size, 1, none⟩ = some (.slice ad on.length cap) := (cell_of_heap h1).trans rfl
  rw [hd]
  go_wp2_with fail
  refine (setGood_c L _ on _ (hv.kept (k0.trans0 k1)) hL hlen hon).mono ?_
  rintro e w2 ⟨s, rfl, hs, k2⟩
  obtain ⟨b, c, rfl⟩ := hs.shape
  have hlt2 := lt_of_heap (k2.heap (by simp) h1)
  clear c0 c1
  go_wp2_with fail
  refine (fits_c i _).mono ?_
  rintro e w3 ⟨rfl, rfl⟩
  rw [hdi]
  obtain ⟨G, hG⟩ : ∃ G : Nat → Bool, (fun (j : Nat) => fAt (lenOf L on) (memOf on) ((j : Int) - (i : Int))) = G := ⟨_, rfl⟩
  obtain ⟨m, hm⟩ : ∃ m, lst G (lenOf L on + i) = m := ⟨_, rfl⟩
  have hmb : m ≤ lenOf L on + i := by rw [← hm]; exact lst_le _ _
  go_wp2_with fail
  refine (dk6_c _ (lenOf L on) i (memOf on) true _ (hs.kept ((Kept.refl _ _).alloc _)) (by omega) hfar hi 0 (by omega)).mono ?_
  rintro e w4 ⟨s', rfl, hs', k4⟩
  rw [hG, hm] at hs'
  obtain ⟨b', c', rfl⟩ := hs'.shape
  have HG := Lib.hid hG; have HM := Lib.hid hm; clear hG hm hfar
  rw [HG.out, HM.out] at hfar2
  have k24 : Kept [] w2 w4 := ((Kept.refl _ _).alloc _).trans0 k4
  go_wp2_with fail
  refine (dk7_c _ m i G false _ (hs'.kept ((Kept.refl _ _).alloc _)) (by omega) hfar2 hi 0 (by omega)).mono ?_
  rintro e w5 ⟨s2, rfl, hs2', k5⟩
  obtain ⟨b2, c2, rfl⟩ := hs2'.shape
  obtain ⟨m2, hm2⟩ : ∃ m2, lst (fun j => fAt m G ((j : Int) + (i : Int))) m = m2 := ⟨_, rfl⟩
  rw [hm2]
  clear hs2' hs' hm2
  have k25 : Kept [] w2 w5 := k24.trans0 (((Kept.refl _ _).alloc _).trans0 k5)
  have h5 := k25.heap (by simp) (k2.heap (by simp) h1)
  have d0 : w5.cell? ⟨w.heap.size, 0, none⟩ = some (.int .i64 L) := (cell_of_heap h5).trans rfl
  have d1 : w5.cell? ⟨w.heap.size, 1, none⟩ = some (.slice ad on.length cap) := (cell_of_heap h5).trans rfl
  have hk25 : Kept [] (w2.alloc (.cells #[.slice (some ⟨b, 0, none⟩) (lenOf L on) c, .bool true] 28)) w5 := k4.trans0 (((Kept.refl _ _).alloc _).trans0 k5)
  have hlt5 := lt_of_heap h5
  have gB := hk25.heap (by simp) (heap_alloc_new w2 (.cells #[.slice (some ⟨b, 0, none⟩) (lenOf L on) c, .bool true] 28))
  have hs5 := (hs.kept ((Kept.refl _ _).alloc (.cells #[.slice (some ⟨b, 0, none⟩) (lenOf L on) c, .bool true] 28))).kept hk25
  have z5 : Kept [] w5 (w5.alloc (.cells #[.slice (some ⟨b2, 0, none⟩) m2 c2, .bool false] 28)) := (Kept.refl _ _).alloc _
  have kW := (((k0.trans0 k1).trans0 k2).trans0 k25).trans0 z5
  have hv5 := hv.kept kW
  have gB := z5.heap (by simp) gB
  have hs5 := hs5.kept z5
  clear k25 k24 hk25 k4 k5 k1 k2 k0 h1 g0 hs h5 z5 hfar2
  obtain ⟨N, hN⟩ : ∃ N, lenOf L on = N := ⟨_, rfl⟩
  have hlx : (onL N (memOf on)).length ≤ 9000 := by have := onL_le N (memOf on); omega
  rw [hN] at hs5 gB hln hmb
  go_wp2_with fail
  refine (implShiftLeft_c L i _ on _ hv5 (by omega) (by omega) (fun x hx => by have := hon x hx; omega) hi).mono ?_
  rintro e w6 ⟨M6, v6, rfl, hM6, hM6b, hv6, k6⟩
  rw [hN] at hM6 hv6
  (try rw [hN])
  obtain ⟨l6, hl6⟩ : ∃ l, onL (N + i) (fun j => decide (i ≤ j) && (decide (j - i < N) && memOf on (j - i))) = l := ⟨_, rfl⟩
  rw [hl6] at hv6
  have hl6a : l6.length = (onL N (memOf on)).length := by rw [← hl6]; exact shl_len _ _ _
  have hl6b : ∀ x ∈ l6, x < 9000 := by rw [← hl6]; intro x hx; have := onL_lt _ _ x hx; omega
  have hbk := back_list N M6 i (memOf on) l6 hl6.symm
  obtain ⟨ad6, cap6, rfl⟩ := hv6.shape
  obtain ⟨len6, hlen6⟩ : ∃ n, l6.length = n := ⟨_, rfl⟩
  rw [hlen6] at hl6a
  rw [hlen6]
  have HBK := Lib.hid hbk; have HN := Lib.hid hN; have HL6 := Lib.hid hlen6; have HL6a := Lib.hid hl6a; have HL6b := Lib.hid hl6b
  clear hbk hN hlen6 hl6 hl6a hl6b
  have g7 := heap_alloc_new w6 (.cells #[.int .i64 M6, .slice ad6 len6 cap6] 24)
  have k7 : Kept [] w6 (w6.alloc (.cells #[.int .i64 M6, .slice ad6 len6 cap6] 24)) := (Kept.refl _ _).alloc _
  have gB7 := k7.heap (by simp) (k6.heap (by simp) gB)
  have hs7 := (hs5.kept k6).kept k7
  have hv7 := hv6.kept k7
  have kV := (kW.trans0 k6).trans0 k7
  go_wp2_with fail
  generalize (w6.alloc (.cells #[.int .i64 M6, .slice ad6 len6 cap6] 24)) = W at *
  have A0 : ∀ w', Kept [] W w' → w'.cell? ⟨w6.heap.size, 0, none⟩ = some (.int .i64 M6) := fun w' k => (cell_of_heap (k.heap (by simp) g7)).trans rfl
  have A1 : ∀ w', Kept [] W w' → w'.cell? ⟨w6.heap.size, 1, none⟩ = some (.slice ad6 len6 cap6) := fun w' k => (cell_of_heap (k.heap (by simp) g7)).trans rfl
  have B0 : ∀ w', Kept [] W w' → w'.cell? ⟨w2.heap.size, 0, none⟩ = some (.slice (some ⟨b, 0, none⟩) N c) := fun w' k => (cell_of_heap (k.heap (by simp) gB7)).trans rfl
  have B1 : ∀ w', Kept [] W w' → w'.cell? ⟨w2.heap.size, 1, none⟩ = some (.bool true) := fun w' k => (cell_of_heap (k.heap (by simp) gB7)).trans rfl
  clear gB g7 gB7 hs5 hv5 hv6 k6 k7 kW d0 d1
  refine wp_region_held_drew (S := fun w' => Kept [] W w') (by kernel_rfl) (Kept.refl _ _).drew (fun hS => ?_)
  refine takeD 0 48 (v := ?_) rfl rfl (by kernel_rfl) (by kernel_rfl) (by kernel_rfl) (fun _ _ _ h => h) (Or.inl ⟨by kernel_rfl, ?_⟩) hS ?_
  rotate_left 1
  · (intro w' hw'; (try dsimp only at hw'); go_simp; try with_reducible rfl)
  simp only [List.setIfInBounds_toArray, List.set_cons_zero, List.set_cons_succ]
  refine takeD 1 49 (v := ?_) rfl rfl (by kernel_rfl) (by kernel_rfl) (by kernel_rfl) (fun _ _ _ h => h) (Or.inl ⟨by kernel_rfl, ?_⟩) hS ?_
  rotate_left 1
  · (intro w' hw'; (try dsimp only at hw'); go_simp; try with_reducible rfl)
  simp only [List.setIfInBounds_toArray, List.set_cons_zero, List.set_cons_succ]
  refine takeD 3 51 (v := ?_) rfl rfl (by kernel_rfl) (by kernel_rfl) (by kernel_rfl) (fun _ _ _ h => h) (Or.inl ⟨by kernel_rfl, ?_⟩) hS ?_
  rotate_left 1
  · (intro w' hw'; (try dsimp only at hw'); go_simp; try with_reducible rfl)
  simp only [List.setIfInBounds_toArray, List.set_cons_zero, List.set_cons_succ]
  refine wpAnyH_ready (rs := [2]) (by kernel_rfl) (by simp) ?_
  refine AllReadyH.cons rfl (fun K hK => ?_) AllReadyH.nil
  go_simp
  refine (implShiftRight_c M6 i _ l6 _ (by rw [← HL6.out]; exact hv7.kept hS) (by omega) (by rw [HL6.out]; have := HL6a.out; omega) HL6b.out hi).mono ?_
  rintro e w8 ⟨M8, v8, rfl, hM8, hM8b, hv8, k8⟩
  clear hM8
  rw [HBK.out] at hv8
  refine hK.out _ _ ?_ (fun hS1 => ?_)
  · exact hS.trans0 k8
  clear hK K
  (try simp only [Act.put, List.setIfInBounds_toArray, List.set_cons_zero, List.set_cons_succ])
  refine wpAnyH_ready (rs := [4]) (by kernel_rfl) (by simp) ?_
  refine AllReadyH.cons rfl (fun K hK => ?_) AllReadyH.nil
  go_simp
  refine (alike_c M8 v8 _ N (memOf on) true _ hv8 (hs7.kept hS1) (by omega)).mono ?_
  rintro e w9 ⟨rfl, k9⟩
  refine hK.out _ _ ?_ (fun hS2 => ?_)
  · exact hS1.trans0 k9
  clear hK K
  (try simp only [Act.put, List.setIfInBounds_toArray, List.set_cons_zero, List.set_cons_succ])
  refine takeD 5 53 (v := ?_) rfl rfl (by kernel_rfl) (by kernel_rfl) (by kernel_rfl) (fun _ _ _ h => h) (Or.inl ⟨by kernel_rfl, ?_⟩) hS2 ?_
  rotate_left 1
  · (intro w' hw'; (try dsimp only at hw'); go_simp; try with_reducible rfl)
  simp only [List.setIfInBounds_toArray, List.set_cons_zero, List.set_cons_succ]
  refine takeD 6 54 (v := ?_) rfl rfl (by kernel_rfl) (by kernel_rfl) (by kernel_rfl) (fun _ _ _ h => h) (Or.inl ⟨by kernel_rfl, ?_⟩) hS2 ?_
  rotate_left 1
  · (intro w' hw'; (try dsimp only at hw'); go_simp; try with_reducible rfl)
  simp only [List.setIfInBounds_toArray, List.set_cons_zero, List.set_cons_succ]
  refine takeD 7 55 (v := ?_) rfl rfl (by kernel_rfl) (by kernel_rfl) (by kernel_rfl) (fun _ _ _ h => h) (Or.inl ⟨by kernel_rfl, ?_⟩) hS2 ?_
  rotate_left 1
  · (intro w' hw'; (try dsimp only at hw'); go_simp; try with_reducible rfl)
  simp only [List.setIfInBounds_toArray, List.set_cons_zero, List.set_cons_succ]
  refine takeD 8 56 (v := ?_) rfl rfl (by kernel_rfl) (by kernel_rfl) (by kernel_rfl) (fun _ _ _ h => h) (Or.inl ⟨by kernel_rfl, ?_⟩) hS2 ?_
  rotate_left 1
  · (intro w' hw'; (try dsimp only at hw'); go_simp; try with_reducible rfl)
  simp only [List.setIfInBounds_toArray, List.set_cons_zero, List.set_cons_succ]
  refine takeD 9 57 (v := ?_) rfl rfl (by kernel_rfl) (by kernel_rfl) (by kernel_rfl) (fun _ _ _ h => h) (Or.inl ⟨by kernel_rfl, ?_⟩) hS2 ?_
  rotate_left 1
  · (intro w' hw'; (try dsimp only at hw'); go_simp; try with_reducible rfl)
  simp only [List.setIfInBounds_toArray, List.set_cons_zero, List.set_cons_succ]
  refine wpAnyH_ready (rs := [10]) (by kernel_rfl) (by simp) ?_
  refine AllReadyH.cons rfl (fun K hK => ?_) AllReadyH.nil
  go_simp
  refine (on_c _ N (memOf on) true _ (hs7.kept hS2) (by omega)).mono ?_
  rintro e w10 ⟨v10, rfl, hown, k10⟩
  obtain ⟨ad10, cap10, rfl⟩ := (IntsAt.of_owns hown).shape
  have hln10 := HL6a.out
  rw [← hln10]
  clear hown
  refine hK.out _ _ ?_ (fun hS3 => ?_)
  · exact hS2.trans0 k10
  clear hK K
  (try simp only [Act.put, List.setIfInBounds_toArray, List.set_cons_zero, List.set_cons_succ])
  refine takeD 11 59 (v := ?_) rfl rfl (by kernel_rfl) (by kernel_rfl) (by kernel_rfl) (fun _ _ _ h => h) (Or.inl ⟨by kernel_rfl, ?_⟩) hS3 ?_
  rotate_left 1
  · (intro w' hw'; (try dsimp only at hw'); go_simp; try with_reducible rfl)
  simp only [List.setIfInBounds_toArray, List.set_cons_zero, List.set_cons_succ]
  refine takeD 12 60 (v := ?_) rfl rfl (by kernel_rfl) (by kernel_rfl) (by kernel_rfl) (fun _ _ _ h => h) (Or.inl ⟨by kernel_rfl, ?_⟩) hS3 ?_
  rotate_left 1
  · (intro w' hw'; (try dsimp only at hw'); go_simp; try with_reducible rfl)
  simp only [List.setIfInBounds_toArray, List.set_cons_zero, List.set_cons_succ]
  refine takeD 13 61 (v := ?_) rfl rfl (by kernel_rfl) (by kernel_rfl) (by kernel_rfl) (fun _ _ _ h => h) (Or.inl ⟨by kernel_rfl, ?_⟩) hS3 ?_
  rotate_left 1
  · (intro w' hw'; (try dsimp only at hw'); go_simp; try with_reducible rfl)
  simp only [List.setIfInBounds_toArray, List.set_cons_zero, List.set_cons_succ]
  refine takeD 14 4 (v := ?_) rfl rfl (by kernel_rfl) (by kernel_rfl) (by kernel_rfl) (fun _ _ _ h => h) (Or.inl ⟨by kernel_rfl, ?_⟩) hS3 ?_
  rotate_left 1
  · (intro w' hw'; (try dsimp only at hw'); go_simp; try with_reducible rfl)
  simp only [List.setIfInBounds_toArray, List.set_cons_zero, List.set_cons_succ]
  refine wpAnyH_done (by kernel_rfl) ?_ _
  go_wp2
  go_ret
  exact ⟨by simp, kV.trans0 hS3⟩

theorem fnShiftBack_c (L : Int) (i : Int) (v : Value) (zs : List Int) (w : World) (hv : IntsZ w v zs) (hlen : zs.length ≤ 9223372036854775807) (hL : -9223372036854775808 ≤ L) (hL2 : L ≤ 9223372036854775807) :
    Calls Try.prog 8 #[.agg #[.int .i64 L, v], .int .i64 i] w fun e w' => e = .returned (.bool true) ∧ Kept [] w w' := by
  by_cases hg : Good L zs ∧ 0 ≤ i ∧ i ≤ 2500
  · have hg0 := hg
    obtain ⟨hg1, pi, ri⟩ := hg
    obtain ⟨Ln, on, rfl, q1, q2, q3, q4⟩ := hv.good hg1
    obtain ⟨i, rfl⟩ := Int.eq_ofNat_of_zero_le pi
    by_cases hfar : lst (memOf on) (lenOf Ln on) = 0 ∨ (lst (memOf on) (lenOf Ln on) - 1 + i) % 64 ≠ 0
    · by_cases hfar2 : lst (fun (j : Nat) => fAt (lenOf Ln on) (memOf on) ((j : Int) - (i : Int))) (lst (fun (j : Nat) => fAt (lenOf Ln on) (memOf on) ((j : Int) - (i : Int))) (lenOf Ln on + i)) = 0 ∨ i + 1 < lst (fun (j : Nat) => fAt (lenOf Ln on) (memOf on) ((j : Int) - (i : Int))) (lst (fun (j : Nat) => fAt (lenOf Ln on) (memOf on) ((j : Int) - (i : Int))) (lenOf Ln on + i))
      · exact fnShiftBack_good Ln i v on w q4 q1 q2 q3 (by omega) hfar hfar2
      · exact fnShiftBack_un2 Ln i v on w q4 q1 q2 q3 (by omega) hfar (by omega)
    · exact fnShiftBack_un Ln i v on w q4 q1 q2 q3 (by omega) (by omega)
  · exact fnShiftBack_bad L i v zs w hv hlen hL hL2 hg

open Go.ChangeShapes Go.WideShapes Go.ChangeAt Go.Joins

set_option maxRecDepth 100000 in
theorem fnShiftBack_lifted (os : Os) (started : os.Started) (H : Type) (enc : TypeId × Value → H) :
    ReturnsInHanded {} Try.checked os 8 .any (Rows.fnShiftBackSpec.pre6 enc Try.prog Try.f8 Rows.fnShiftBackRow.domain false) (Rows.fnShiftBackSpec.post enc Try.prog Try.f8 false true false false) := by
  refine returnsInHanded_of_change (C := Try.checked) Try.own started (by kernel_rfl) Try.func8
    (ChangeSpec.witness6 (enc := enc) (C := Try.checked) false ⟨#[], #[.agg #[.int .i64 0, .slice none 0 0], .int .i64 0], []⟩ 8 (by kernel_rfl) (by kernel_rfl) (by kernel_rfl) (by kernel_rfl)) ?_
  intro W base args ds gs before hval0 hW _ _
  have hval : ∀ (j : Nat) t v, Try.f8.params[j]? = some t → args[j]? = some v → Value.okWide Try.prog W .any base t v := hval0
  have hW' := hW
  obtain ⟨p, q, hA0, hV, rfl, _, _⟩ := hW
  have hA : DataW.TrodAll enc Try.prog W 0 (fun _ => true) true Try.f8.params.toList args.toList ds p := hA0
  rw [Try.params8] at hA hval
  obtain ⟨v0, v1, d0, d1, p0, p1, rfl, rfl, rfl, h0, h1⟩ := trodAll_two hA
  obtain ⟨rfl, rfl⟩ := trodVars_none hV
  obtain ⟨i, rfl, rfl, rfl, wi1⟩ := open_int Try.underlying3 (hval 1 3 v1 rfl rfl) h1
  obtain ⟨L0, s0, zs0, rfl, hz0, hlen0, hL0, hR0⟩ := bits_read (hval 0 24 v0 rfl rfl) h0
  clear hA0 hval0
  simp only [List.append_nil] at hW'
  have hlt0 : ∀ x ∈ p0, x.block < W.heap.size := fun x hx => by simpa using hW'.lt x hx
  refine (fnShiftBack_c L0 i s0 zs0 W hz0 hlen0 hL0 hR0).mono fun e W' ⟨he, hk⟩ => ?_
  subst he
  have hb := hk.below
  refine ⟨_, rfl, _, _, _, [], p0 ++ [], [], hW', ?_, ?_, rfl, hb.frame _, fun h => by cases h⟩
  · exact trodAll_mk1 (shut_bool Try.underlying4 true)
  · exact trodAll_mk2 (Below.trod Try.laidOut (by kernel_rfl) (of_decide_eq_true (by kernel_rfl)) h0 hb hlt0) (shut_int Try.underlying3 wi1)

theorem fnShiftBack_holds : Rows.FnShiftBackSaid :=
  OpenClaim.holds_of_wide 8 Try.f8 rfl rfl rfl rfl rfl rfl rfl ⟨rfl, rfl, rfl, rfl, rfl⟩ rfl rfl rfl rfl rfl (by kernel_rfl) Try.func8 (by kernel_rfl)
    (of_decide_eq_true (by kernel_rfl)) (by unfold Func.isWrapper; first | (rw [if_pos (by decide +kernel)]; kernel_rfl) | (rw [if_neg (by decide +kernel)]; exact ⟨rfl, rfl⟩))
    (fun os started H enc _ => fnShiftBack_lifted os started H enc)

end Go.Proofs.Ytiaghdnhapiioaa

/-
  laws.FnShiftTwice: for every input.
-/
import Derived.Test.YtiaghdnhapiioaaTSh
import Derived.Test.YtiaghdnhapiioaaTwL
import Derived.Test.YtiaghdnhapiioaaDoF
import Derived.Test.YtiaghdnhapiioaaRow
namespace Go.Proofs.Ytiaghdnhapiioaa
set_option linter.unusedSimpArgs false
set_option linter.unusedVariables false
open Go.RowKit

set_option maxHeartbeats 1000000 in
set_option linter.unusedVariables false in
theorem fnShiftTwice_bad (L : Int) (i : Int) (k : Int) (v : Value) (zs : List Int) (w : World) (hv : IntsZ w v zs) (hlen : zs.length ≤ 9223372036854775807) (hL : -9223372036854775808 ≤ L) (hL2 : L ≤ 9223372036854775807) (hb : ¬ (Good L zs ∧ 0 ≤ i ∧ i ≤ 2500 ∧ 0 ≤ k ∧ k ≤ 2500)) :
    Calls Try.prog 7 #[.agg #[.int .i64 L, v], .int .i64 i, .int .i64 k] w fun e w' => e = .returned (.bool true) ∧ Kept [] w w' := by
  have k0 : Kept [] w (w.alloc (.cells #[.int .i64 L, v] 24)) := (Kept.refl _ _).alloc _
  have g0 : (w.alloc (.cells #[.int .i64 L, v] 24)).heap[w.heap.size]? = some (.cells #[.int .i64 L, v] 24 (0, 0)) := heap_alloc_new w _
  obtain ⟨ad, m, cap, rfl⟩ : ∃ ad m cap, v = .slice ad m cap := by
    rcases hv with ⟨ad, cap, h3, h4⟩ | ⟨b, off, cap, h3, _, _⟩ <;> exact ⟨_, _, _, h3⟩
  by_cases hm : m ≤ 2147483647
  · have hd : decide (m ≤ 2147483647) = true := by simpa using hm
    by_cases hg : Good L zs
    · obtain ⟨Ln, on, rfl, q1, q2, q3, q4⟩ := hv.good hg
      have hi : ¬ (0 ≤ i ∧ i ≤ 2500 ∧ 0 ≤ k ∧ k ≤ 2500) := fun h => hb ⟨hg, h⟩
      by_cases hfi : 0 ≤ i ∧ i ≤ 2500
      · have hdi : (decide (0 ≤ i) && decide (i ≤ 2500)) = true := by simp; omega
        have hdk : (decide (0 ≤ k) && decide (k ≤ 2500)) = false := by simp; omega
        clear hb hg
        go_enter Try.func7, Try.ntmps7
        go_wp2_with fail
        refine (zz_c Ln ad m cap _).mono ?_
        rintro e w1 ⟨rfl, k1⟩
        have c0 : w1.cell? ⟨w.heap.size, 0, none⟩ = some (.int .i64 Ln) := (cell_of_heap (k1.heap (by simp) g0)).trans rfl
        have c1 : w1.cell? ⟨w.heap.size, 1, none⟩ = some (.slice ad m cap) := (cell_of_heap (k1.heap (by simp) g0)).trans rfl
        rw [hd]
        go_wp2_with fail
        refine (setGood_c Ln _ on _ (q4.kept (k0.trans0 k1)) q1 q2 q3).mono ?_
        rintro e w2 ⟨s, rfl, hs, k2⟩
        obtain ⟨b, c, rfl⟩ := hs.shape
        go_wp2_with fail
        refine (fits_c i _).mono ?_
        rintro e w3 ⟨rfl, rfl⟩
        rw [hdi]
        go_wp2_with fail
        refine (fits_c k _).mono ?_
        rintro e w3 ⟨rfl, rfl⟩
        rw [hdk]
        go_wp2_with fail
        go_ret
        exact ⟨rfl, (((k0.trans0 k1).trans0 k2).alloc _)⟩
      · have hdi : (decide (0 ≤ i) && decide (i ≤ 2500)) = false := by simp; omega
        clear hb hg
        go_enter Try.func7, Try.ntmps7
        go_wp2_with fail
        refine (zz_c Ln ad m cap _).mono ?_
        rintro e w1 ⟨rfl, k1⟩
        have c0 : w1.cell? ⟨w.heap.size, 0, none⟩ = some (.int .i64 Ln) := (cell_of_heap (k1.heap (by simp) g0)).trans rfl
        have c1 : w1.cell? ⟨w.heap.size, 1, none⟩ = some (.slice ad m cap) := (cell_of_heap (k1.heap (by simp) g0)).trans rfl
        rw [hd]
        go_wp2_with fail
        refine (setGood_c Ln _ on _ (q4.kept (k0.trans0 k1)) q1 q2 q3).mono ?_
        rintro e w2 ⟨s, rfl, hs, k2⟩
        obtain ⟨b, c, rfl⟩ := hs.shape
        go_wp2_with fail
        refine (fits_c i _).mono ?_
        rintro e w3 ⟨rfl, rfl⟩
        rw [hdi]
        go_wp2_with fail
        go_ret
        exact ⟨rfl, (((k0.trans0 k1).trans0 k2).alloc _)⟩
    · clear hb
      go_enter Try.func7, Try.ntmps7
      go_wp2_with fail
      refine (zz_c L ad m cap _).mono ?_
      rintro e w1 ⟨rfl, k1⟩
      have c0 : w1.cell? ⟨w.heap.size, 0, none⟩ = some (.int .i64 L) := (cell_of_heap (k1.heap (by simp) g0)).trans rfl
      have c1 : w1.cell? ⟨w.heap.size, 1, none⟩ = some (.slice ad m cap) := (cell_of_heap (k1.heap (by simp) g0)).trans rfl
      rw [hd]
      go_wp2_with fail
      refine (setBad_c L _ zs _ (hv.kept (k0.trans0 k1)) hg hlen hL hL2).mono ?_
      rintro e w2 ⟨rfl, k2⟩
      go_wp2_with fail
      go_ret
      exact ⟨rfl, (((k0.trans0 k1).trans0 k2).alloc _)⟩
  · have hd : decide (m ≤ 2147483647) = false := by simpa using hm
    clear hb
    go_enter Try.func7, Try.ntmps7
    go_wp2_with fail
    refine (zz_c L ad m cap _).mono ?_
    rintro e w1 ⟨rfl, k1⟩
    rw [hd]
    go_wp2_with fail
    go_ret
    exact ⟨rfl, k0.trans0 k1⟩

set_option maxHeartbeats 2000000 in
set_option linter.unusedVariables false in
theorem fnShiftTwice_big (L : Nat) (i : Nat) (k : Nat) (v : Value) (on : List Nat) (w : World) (hv : IntsAt w v on) (hL : L ≤ 2000) (hlen : on.length ≤ 400) (hon : ∀ x ∈ on, x < 2500) (hi : i ≤ 2500) (hk : k ≤ 2500) (hbig : 2500 < i + k) :
    Calls Try.prog 7 #[.agg #[.int .i64 L, v], .int .i64 i, .int .i64 k] w fun e w' => e = .returned (.bool true) ∧ Kept [] w w' := by
  have k0 : Kept [] w (w.alloc (.cells #[.int .i64 L, v] 24)) := (Kept.refl _ _).alloc _
  have g0 : (w.alloc (.cells #[.int .i64 L, v] 24)).heap[w.heap.size]? = some (.cells #[.int .i64 L, v] 24 (0, 0)) := heap_alloc_new w _
  obtain ⟨ad, cap, rfl⟩ := hv.shape
  have hd : decide (on.length ≤ 2147483647) = true := by simp; omega
  have hdi : (decide ((0 : Int) ≤ i) && decide ((i : Int) ≤ 2500)) = true := by simp; omega
  have hdk : (decide ((0 : Int) ≤ k) && decide ((k : Int) ≤ 2500)) = true := by simp; omega
  have hb9 : (2500 : Int) < (i : Int) + (k : Int) := by omega
  have hln := lenOf_le L on 2500 (by omega) hon
  go_enter Try.func7, Try.ntmps7
  go_wp2_with fail
  refine (zz_c L ad on.length cap _).mono ?_
  rintro e w1 ⟨rfl, k1⟩
  have h1 := k1.heap (by simp) g0
  have c0 : w1.cell? ⟨w.heap.size, 0, none⟩ = some (.int .i64 L) := (cell_of_heap h1).trans rfl
  have c1 : w1.cell? ⟨w.heap.size, 1, none⟩ = some (.slice ad on.length cap) := (cell_of_heap h1).trans rfl
  rw [hd]
  go_wp2_with fail
  refine (setGood_c L _ on _ (hv.kept (k0.trans0 k1)) hL hlen hon).mono ?_
  rintro e w2 ⟨s, rfl, hs, k2⟩
  obtain ⟨b, c, rfl⟩ := hs.shape
  have hlt2 := lt_of_heap (k2.heap (by simp) h1)
  clear c0 c1
  go_wp2_with fail
  refine (fits_c i _).mono ?_
  rintro e w3 ⟨rfl, rfl⟩
  rw [hdi]
  go_wp2_with fail
  refine (fits_c k _).mono ?_
  rintro e w3 ⟨rfl, rfl⟩
  rw [hdk]
  go_wp2_with fail
  go_ret
  exact ⟨rfl, (((k0.trans0 k1).trans0 k2).alloc _)⟩

set_option maxHeartbeats 2000000 in
set_option linter.unusedVariables false in
theorem fnShiftTwice_un (L : Nat) (i : Nat) (k : Nat) (v : Value) (on : List Nat) (w : World) (hv : IntsAt w v on) (hL : L ≤ 2000) (hlen : on.length ≤ 400) (hon : ∀ x ∈ on, x < 2500) (hi : i ≤ 2500) (hk : k ≤ 2500) (hbig : i + k ≤ 2500) (hfar : 0 < lst (memOf on) (lenOf L on) ∧ lst (memOf on) (lenOf L on) ≤ i + k + 1) :
    Calls Try.prog 7 #[.agg #[.int .i64 L, v], .int .i64 i, .int .i64 k] w fun e w' => e = .returned (.bool true) ∧ Kept [] w w' := by
  have k0 : Kept [] w (w.alloc (.cells #[.int .i64 L, v] 24)) := (Kept.refl _ _).alloc _
  have g0 : (w.alloc (.cells #[.int .i64 L, v] 24)).heap[w.heap.size]? = some (.cells #[.int .i64 L, v] 24 (0, 0)) := heap_alloc_new w _
  obtain ⟨ad, cap, rfl⟩ := hv.shape
  have hd : decide (on.length ≤ 2147483647) = true := by simp; omega
  have hdi : (decide ((0 : Int) ≤ i) && decide ((i : Int) ≤ 2500)) = true := by simp; omega
  have hdk : (decide ((0 : Int) ≤ k) && decide ((k : Int) ≤ 2500)) = true := by simp; omega
  have hb9 : ¬ (2500 : Int) < (i : Int) + (k : Int) := by omega
  have hln := lenOf_le L on 2500 (by omega) hon
  go_enter Try.func7, Try.ntmps7
  go_wp2_with fail
  refine (zz_c L ad on.length cap _).mono ?_
  rintro e w1 ⟨rfl, k1⟩
  have h1 := k1.heap (by simp) g0
  have c0 : w1.cell? ⟨w.heap.size, 0, none⟩ = some (.int .i64 L) := (cell_of_heap h1).trans rfl
  have c1 : w1.cell? ⟨w.heap.size, 1, none⟩ = some (.slice ad on.length cap) := (cell_of_heap h1).trans rfl
  rw [hd]
  go_wp2_with fail
  refine (setGood_c L _ on _ (hv.kept (k0.trans0 k1)) hL hlen hon).mono ?_
  rintro e w2 ⟨s, rfl, hs, k2⟩
  obtain ⟨b, c, rfl⟩ := hs.shape
  have hlt2 := lt_of_heap (k2.heap (by simp) h1)
  clear c0 c1
  go_wp2_with fail
  refine (fits_c i _).mono ?_
  rintro e w3 ⟨rfl, rfl⟩
  rw [hdi]
  go_wp2_with fail
  refine (fits_c k _).mono ?_
  rintro e w3 ⟨rfl, rfl⟩
  rw [hdk]
  go_wp2_with fail
  rw [show (i : Int) + (k : Int) = ((i + k : Nat) : Int) by omega]
  refine (do7u_c _ (lenOf L on) (i + k) (memOf on) true _ (hs.kept ((Kept.refl _ _).alloc _)) (by omega) hfar hbig).mono ?_
  rintro e w4 ⟨rfl, k4⟩
  have k3 : Kept [] w2 (w2.alloc (.cells #[.slice (some ⟨b, 0, none⟩) (lenOf L on) c, .bool true] 28)) := (Kept.refl _ _).alloc _
  go_wp2_with fail
  go_ret
  exact ⟨rfl, (((((k0.trans0 k1).trans0 k2).trans0 k3).trans0 k4).alloc (.cells #[.slice (some ⟨b, 0, none⟩) (lenOf L on) c, .bool true] 28))⟩

set_option maxHeartbeats 4000000 in
set_option maxRecDepth 100000 in
set_option linter.unusedVariables false in
theorem fnShiftTwice_good (L : Nat) (i : Nat) (k : Nat) (v : Value) (on : List Nat) (w : World) (hv : IntsAt w v on) (hL : L ≤ 2000) (hlen : on.length ≤ 400) (hon : ∀ x ∈ on, x < 2500) (hi : i ≤ 2500) (hk : k ≤ 2500) (hbig : i + k ≤ 2500) (hfar : lst (memOf on) (lenOf L on) = 0 ∨ i + k + 1 < lst (memOf on) (lenOf L on)) :
    Calls Try.prog 7 #[.agg #[.int .i64 L, v], .int .i64 i, .int .i64 k] w fun e w' => e = .returned (.bool true) ∧ Kept [] w w' := by
  have k0 : Kept [] w (w.alloc (.cells #[.int .i64 L, v] 24)) := (Kept.refl _ _).alloc _
  have g0 : (w.alloc (.cells #[.int .i64 L, v] 24)).heap[w.heap.size]? = some (.cells #[.int .i64 L, v] 24 (0, 0)) := heap_alloc_new w _
  obtain ⟨ad, cap, rfl⟩ := hv.shape
  have hd : decide (on.length ≤ 2147483647) = true := by simp; omega
  have hdi : (decide ((0 : Int) ≤ i) && decide ((i : Int) ≤ 2500)) = true := by simp; omega
  have hdk : (decide ((0 : Int) ≤ k) && decide ((k : Int) ≤ 2500)) = true := by simp; omega
  have hb9 : ¬ (2500 : Int) < (i : Int) + (k : Int) := by omega
  have hln := lenOf_le L on 2500 (by omega) hon
  go_enter Try.func7, Try.ntmps7
  go_wp2_with fail
  refine (zz_c L ad on.length cap _).mono ?_
  rintro e w1 ⟨rfl, k1⟩
  have h1 := k1.heap (by simp) g0
  have c0 : w1.cell? ⟨w.heap.size, 0, none⟩ = some (.int .i64 L) := (cell_of_heap h1).trans rfl
  have c1 : w1.cell? ⟨w.heap.size, 1, none⟩ = some (.slice ad on.length cap) := (cell_of_heap h1).trans rfl
  rw [hd]
  go_wp2_with fail
  refine (setGood_c L _ on _ (hv.kept (k0.trans0 k1)) hL hlen hon).mono ?_
  rintro e w2 ⟨s, rfl, hs, k2⟩
  obtain ⟨b, c, rfl⟩ := hs.shape
  have hlt2 := lt_of_heap (k2.heap (by simp) h1)
  clear c0 c1
  go_wp2_with fail
  refine (fits_c i _).mono ?_
  rintro e w3 ⟨rfl, rfl⟩
  rw [hdi]
  go_wp2_with fail
  refine (fits_c k _).mono ?_
  rintro e w3 ⟨rfl, rfl⟩
  rw [hdk]
  go_wp2_with fail
  rw [show (i : Int) + (k : Int) = ((i + k : Nat) : Int) by omega]
  refine (do7_c _ (lenOf L on) (i + k) (memOf on) true _ (hs.kept ((Kept.refl _ _).alloc _)) (by omega) hfar hbig).mono ?_
  rintro e w4 ⟨s', M, F, rfl, hs', hm9, hF', k4⟩
  obtain ⟨b', c', rfl⟩ := hs'.shape
  have k3 : Kept [] w2 (w2.alloc (.cells #[.slice (some ⟨b, 0, none⟩) (lenOf L on) c, .bool true] 28)) := (Kept.refl _ _).alloc _
  have h4 := k4.heap (by simp) (k3.heap (by simp) (k2.heap (by simp) h1))
  go_wp2_with fail
  have k5 : Kept [] w4 (w4.alloc (.cells #[.slice (some ⟨b', 0, none⟩) M c', .bool false] 28)) := (Kept.refl _ _).alloc _
  have gA := k5.heap (by simp) h4
  have gB := heap_alloc_new w4 (.cells #[.slice (some ⟨b', 0, none⟩) M c', .bool false] 28)
  have hs5 := hs'.kept k5
  have hv5 := hv.kept (((((k0.trans0 k1).trans0 k2).trans0 k3).trans0 k4).trans0 k5)
  have kW := ((((k0.trans0 k1).trans0 k2).trans0 k3).trans0 k4).trans0 k5
  clear k5 h4 k3 hs' hs k1 k2 h1 g0 k0
  generalize (w4.alloc (.cells #[.slice (some ⟨b', 0, none⟩) M c', .bool false] 28)) = W at *
  have A0 : ∀ w', Kept [] W w' → w'.cell? ⟨w.heap.size, 0, none⟩ = some (.int .i64 L) := fun w' k => (cell_of_heap (k.heap (by simp) gA)).trans rfl
  have A1 : ∀ w', Kept [] W w' → w'.cell? ⟨w.heap.size, 1, none⟩ = some (.slice ad on.length cap) := fun w' k => (cell_of_heap (k.heap (by simp) gA)).trans rfl
  have B0 : ∀ w', Kept [] W w' → w'.cell? ⟨w4.heap.size, 0, none⟩ = some (.slice (some ⟨b', 0, none⟩) M c') := fun w' k => (cell_of_heap (k.heap (by simp) gB)).trans rfl
  have B1 : ∀ w', Kept [] W w' → w'.cell? ⟨w4.heap.size, 1, none⟩ = some (.bool false) := fun w' k => (cell_of_heap (k.heap (by simp) gB)).trans rfl
  clear gA gB
  obtain ⟨N, hN⟩ : ∃ N, lenOf L on = N := ⟨_, rfl⟩
  obtain ⟨l1, hl1⟩ : ∃ l, onL (lenOf L on) (fun j => decide (j + i < lenOf L on) && memOf on (j + i)) = l := ⟨_, rfl⟩
  have hN2 : lenOf N l1 = N := by rw [← hl1, hN]; exact lenOf_onL _ _ _ (Nat.le_refl _)
  obtain ⟨l2, hl2⟩ : ∃ l, onL (lenOf N l1) (fun j => decide (j + k < lenOf N l1) && memOf l1 (j + k)) = l := ⟨_, rfl⟩
  obtain ⟨l3, hl3⟩ : ∃ l, onL (lenOf L on) (fun j => decide (j + (i + k) < lenOf L on) && memOf on (j + (i + k))) = l := ⟨_, rfl⟩
  have hl1a : l1.length ≤ 1000000 := by rw [← hl1]; have := onL_le (lenOf L on) (fun j => decide (j + i < lenOf L on) && memOf on (j + i)); omega
  have hl1b : ∀ x ∈ l1, x < 9000 := by rw [← hl1]; intro x hx; have := onL_lt _ _ x hx; omega
  have he3 : l3 = onL M F := by rw [← hl3, hF']
  have he2 : l2 = onL M F := by rw [← hl2, hN2, ← hl1, hN, hF', hN]; exact shr_twice _ _ _ _
  have hc1 : ∀ w', Kept [] W w' → Calls Try.prog 26 #[.agg #[.int .i64 L, .slice ad on.length cap], .int .i64 i] w' fun e w'' => ∃ v', e = .returned (.agg #[.int .i64 (N : Nat), v']) ∧ IntsT w'' v' l1 ∧ Kept [] w' w'' := fun w' hS => by
    refine (implShiftRightT_c L i _ on _ (hv5.kept hS) (by omega) (by omega) (fun x hx => by have := hon x hx; omega) hi).mono ?_
    rintro e w9 ⟨M9, v9, rfl, hM9, hM9b, hv9, k9⟩
    rw [hl1] at hv9
    exact ⟨v9, by rw [hM9, hN], hv9, k9⟩
  have hc2 : ∀ w' x1, IntsT w' x1 l1 → Calls Try.prog 26 #[.agg #[.int .i64 (N : Nat), x1], .int .i64 k] w' fun e w'' => ∃ v', e = .returned (.agg #[.int .i64 (N : Nat), v']) ∧ IntsT w'' v' l2 ∧ Kept [] w' w'' := fun w' x1 h1 => by
    refine (implShiftRightT_c N k x1 l1 w' h1.1 (by omega) hl1a hl1b hk).mono ?_
    rintro e w9 ⟨M9, v9, rfl, hM9, hM9b, hv9, k9⟩
    rw [hl2] at hv9
    exact ⟨v9, by rw [hM9, hN2], hv9, k9⟩
  have hc3 : ∀ w', Kept [] W w' → Calls Try.prog 26 #[.agg #[.int .i64 L, .slice ad on.length cap], .int .i64 (IntKind.i64.wrap ((i : Int) + (k : Int)))] w' fun e w'' => ∃ v', e = .returned (.agg #[.int .i64 (N : Nat), v']) ∧ IntsT w'' v' l3 ∧ Kept [] w' w'' := fun w' hS => by
    rw [show IntKind.i64.wrap ((i : Int) + (k : Int)) = ((i + k : Nat) : Int) by rw [IntKind.wrap_i64]; omega]
    refine (implShiftRightT_c L (i + k) _ on _ (hv5.kept hS) (by omega) (by omega) (fun x hx => by have := hon x hx; omega) hbig).mono ?_
    rintro e w9 ⟨M9, v9, rfl, hM9, hM9b, hv9, k9⟩
    rw [hl3] at hv9
    exact ⟨v9, by rw [hM9, hN], hv9, k9⟩
  have HC1 := Lib.hid hc1; have HC2 := Lib.hid hc2; have HC3 := Lib.hid hc3
  clear hc1 hc2 hc3
  rw [hN] at hln
  have HN := Lib.hid hN; have HN2 := Lib.hid hN2; have HL1 := Lib.hid hl1; have HL2 := Lib.hid hl2; have HL3 := Lib.hid hl3; have HL1a := Lib.hid hl1a; have HL1b := Lib.hid hl1b; have HE2 := Lib.hid he2; have HE3 := Lib.hid he3
  clear hN hN2 hl1 hl2 hl3 hl1a hl1b he2 he3 hF' hfar
  refine wp_region_held_drew (S := fun w' => Kept [] W w') (by kernel_rfl) (Kept.refl _ _).drew (fun hS => ?_)
  refine takeD 0 48 (v := ?_) rfl rfl (by kernel_rfl) (by kernel_rfl) (by kernel_rfl) (fun _ _ _ h => h) (Or.inl ⟨by kernel_rfl, ?_⟩) hS ?_
  rotate_left 1
  · (intro w' hw'; (try dsimp only at hw'); go_simp; try with_reducible rfl)
  simp only [List.setIfInBounds_toArray, List.set_cons_zero, List.set_cons_succ]
  refine takeD 1 49 (v := ?_) rfl rfl (by kernel_rfl) (by kernel_rfl) (by kernel_rfl) (fun _ _ _ h => h) (Or.inl ⟨by kernel_rfl, ?_⟩) hS ?_
  rotate_left 1
  · (intro w' hw'; (try dsimp only at hw'); go_simp; try with_reducible rfl)
  simp only [List.setIfInBounds_toArray, List.set_cons_zero, List.set_cons_succ]
  refine takeD 3 51 (v := ?_) rfl rfl (by kernel_rfl) (by kernel_rfl) (by kernel_rfl) (fun _ _ _ h => h) (Or.inl ⟨by kernel_rfl, ?_⟩) hS ?_
  rotate_left 1
  · (intro w' hw'; (try dsimp only at hw'); go_simp; try with_reducible rfl)
  simp only [List.setIfInBounds_toArray, List.set_cons_zero, List.set_cons_succ]
  refine takeD 5 53 (v := ?_) rfl rfl (by kernel_rfl) (by kernel_rfl) (by kernel_rfl) (fun _ _ _ h => h) (Or.inl ⟨by kernel_rfl, ?_⟩) hS ?_
  rotate_left 1
  · (intro w' hw'; (try dsimp only at hw'); go_simp; try with_reducible rfl)
  simp only [List.setIfInBounds_toArray, List.set_cons_zero, List.set_cons_succ]
  refine takeD 6 54 (v := ?_) rfl rfl (by kernel_rfl) (by kernel_rfl) (by kernel_rfl) (fun _ _ _ h => h) (Or.inl ⟨by kernel_rfl, ?_⟩) hS ?_
  rotate_left 1
  · (intro w' hw'; (try dsimp only at hw'); go_simp; try with_reducible rfl)
  simp only [List.setIfInBounds_toArray, List.set_cons_zero, List.set_cons_succ]
  refine takeD 7 55 (v := ?_) rfl rfl (by kernel_rfl) (by kernel_rfl) (by kernel_rfl) (fun _ _ _ h => h) (Or.inl ⟨by kernel_rfl, ?_⟩) hS ?_
  rotate_left 1
  · (intro w' hw'; (try dsimp only at hw'); go_simp; try with_reducible rfl)
  simp only [List.setIfInBounds_toArray, List.set_cons_zero, List.set_cons_succ]
  refine takeD 8 56 (v := ?_) rfl rfl (by kernel_rfl) (by kernel_rfl) (by kernel_rfl) (fun _ _ _ h => h) (Or.inl ⟨by kernel_rfl, ?_⟩) hS ?_
  rotate_left 1
  · (intro w' hw'; (try dsimp only at hw'); go_simp; try with_reducible rfl)
  simp only [List.setIfInBounds_toArray, List.set_cons_zero, List.set_cons_succ]
  refine wpAnyH_mask (l' := #[true, true, false, true, false, true, true, true, true, false, false, false, false, false]) (by kernel_rfl) ?_
  refine region_states (fun G hG T hT => ?_)
  have s3AB : ∀ (w' : World) (x1 : Value) (x2 : Value) (x3 : Value) (pA : Nat) (pB : Nat), Kept [] W w' → IntsT w' x1 (l1) → IntsT w' x2 (l2) → IntsT w' x3 (l3) → Blk w' pA → W.heap.size ≤ pA → Blk w' pB → W.heap.size ≤ pB → pA ≠ pB → G 2 #[true, true, true, true, true, true, true, true, true, true, true, true, false, false] (((((T.setIfInBounds 50 (.agg #[.int .i64 (N : Nat), x1])).setIfInBounds 52 (.agg #[.int .i64 (N : Nat), x2])).setIfInBounds 57 (.agg #[.int .i64 (N : Nat), x3])).setIfInBounds 11 (.pointer (some ⟨pA, 0, none⟩))).setIfInBounds 12 (.pointer (some ⟨pB, 0, none⟩))) w' := by
    intro w' x1 x2 x3 pA pB hS h1 h2 h3 hbA hlA hbB hlB hne
    subst hG
    subst hT
    (try simp only [List.setIfInBounds_toArray, List.set_cons_zero, List.set_cons_succ])
    obtain ⟨ad2, cp2, e2⟩ := h2.shape
    subst e2
    obtain ⟨ln2, hln2⟩ : ∃ ln, l2.length = ln := ⟨_, rfl⟩
    rw [hln2] at h2 ⊢
    have HLN2 := Lib.hid hln2; clear hln2
    obtain ⟨ad3, cp3, e3⟩ := h3.shape
    subst e3
    obtain ⟨ln3, hln3⟩ : ∃ ln, l3.length = ln := ⟨_, rfl⟩
    rw [hln3] at h3 ⊢
    have HLN3 := Lib.hid hln3; clear hln3
    obtain ⟨c0, c1, z0, z1, e0, e1⟩ := box2 hbA (.int .i64 (N : Nat)) (.slice ad2 ln2 cp2)
    refine wpAnyH_ready (rs := [12]) (by kernel_rfl) (by simp) ?_
    refine AllReadyH.cons rfl (fun K hK => ?_) AllReadyH.nil
    go_simp
    refine hK.out _ _ ?_ (fun hS1 => ?_)
    · exact (hS.setCell (by right; exact hlA) _).setCell (by right; exact hlA) _
    clear hK K c0 c1 z0 z1 e0 e1
    (try simp only [Act.put, List.setIfInBounds_toArray, List.set_cons_zero, List.set_cons_succ])
    have gA1 := setCell_heap_same (o := 1) (setCell_heap_same (o := 0) hbA (.int .i64 (N : Nat))) (.slice ad2 ln2 cp2)
    have gB1 := setCell_heap_other (o := 1) (setCell_heap_other (o := 0) hbB (Ne.symm hne) (.int .i64 (N : Nat))) (Ne.symm hne) (.slice ad2 ln2 cp2)
    have h2 := (h2.other (o := 0) hbA (.int .i64 (N : Nat))).other (o := 1) (setCell_heap_same (o := 0) hbA (.int .i64 (N : Nat))) (.slice ad2 ln2 cp2)
    have h3 := (h3.other (o := 0) hbA (.int .i64 (N : Nat))).other (o := 1) (setCell_heap_same (o := 0) hbA (.int .i64 (N : Nat))) (.slice ad2 ln2 cp2)
    clear hbA hbB
    generalize ((w'.setCell ⟨pA, 0, none⟩ (.int .i64 (N : Nat))).setCell ⟨pA, 1, none⟩ (.slice ad2 ln2 cp2)) = w1 at *
    obtain ⟨c0, c1, z0, z1, e0, e1⟩ := box2 gB1 (.int .i64 (N : Nat)) (.slice ad3 ln3 cp3)
    refine wpAnyH_ready (rs := [13]) (by kernel_rfl) (by simp) ?_
    refine AllReadyH.cons rfl (fun K hK => ?_) AllReadyH.nil
    go_simp
    refine hK.out _ _ ?_ (fun hS2 => ?_)
    · exact (hS1.setCell (by right; exact hlB) _).setCell (by right; exact hlB) _
    clear hK K c0 c1 z0 z1 e0 e1
    (try simp only [Act.put, List.setIfInBounds_toArray, List.set_cons_zero, List.set_cons_succ])
    have gB2 := setCell_heap_same (o := 1) (setCell_heap_same (o := 0) gB1 (.int .i64 (N : Nat))) (.slice ad3 ln3 cp3)
    have gA2 := setCell_heap_other (o := 1) (setCell_heap_other (o := 0) gA1 hne (.int .i64 (N : Nat))) hne (.slice ad3 ln3 cp3)
    have h2 := (h2.other (o := 0) gB1 (.int .i64 (N : Nat))).other (o := 1) (setCell_heap_same (o := 0) gB1 (.int .i64 (N : Nat))) (.slice ad3 ln3 cp3)
    have h3 := (h3.other (o := 0) gB1 (.int .i64 (N : Nat))).other (o := 1) (setCell_heap_same (o := 0) gB1 (.int .i64 (N : Nat))) (.slice ad3 ln3 cp3)
    clear gA1 gB1
    generalize ((w1.setCell ⟨pB, 0, none⟩ (.int .i64 (N : Nat))).setCell ⟨pB, 1, none⟩ (.slice ad3 ln3 cp3)) = V at *
    refine wpAnyH_done (by kernel_rfl) ?_ _
    have hs2 := hs5.kept hS2
    have hl2 := HL2.out
    have b0 := B0 _ hS2
    have b1 := B1 _ hS2
    have a0 : V.cell? ⟨pA, 0, none⟩ = some (.int .i64 (N : Nat)) := (cell_of_heap gA2).trans rfl
    have a1 : V.cell? ⟨pA, 1, none⟩ = some (.slice ad2 ln2 cp2) := (cell_of_heap gA2).trans rfl
    have a2 : V.cell? ⟨pB, 0, none⟩ = some (.int .i64 (N : Nat)) := (cell_of_heap gB2).trans rfl
    have a3 : V.cell? ⟨pB, 1, none⟩ = some (.slice ad3 ln3 cp3) := (cell_of_heap gB2).trans rfl
    rw [HE2.out] at h2
    rw [HE3.out] at h3
    have HHA := Lib.hid gA2; have HHB := Lib.hid gB2
    clear gA2 gB2 hl2
    go_wp2_with fail
    refine (alike_c N _ _ M F false _ h2.1 hs2 (by omega)).mono ?_
    rintro e w7 ⟨rfl, k7⟩
    have b0' := B0 _ (hS2.trans0 k7)
    have b1' := B1 _ (hS2.trans0 k7)
    have a2' : w7.cell? ⟨pB, 0, none⟩ = some (.int .i64 (N : Nat)) := (cell_of_heap (k7.heap (by simp) HHB.out)).trans rfl
    have a3' : w7.cell? ⟨pB, 1, none⟩ = some (.slice ad3 ln3 cp3) := (cell_of_heap (k7.heap (by simp) HHB.out)).trans rfl
    go_wp2_with fail
    refine (alike_c N _ _ M F false _ (h3.kept k7).1 (hs2.kept k7) (by omega)).mono ?_
    rintro e w8 ⟨rfl, k8⟩
    go_wp2_with fail
    go_ret
    exact ⟨rfl, kW.trans0 ((hS2.trans0 k7).trans0 k8)⟩
  have s2AB : ∀ (w' : World) (x1 : Value) (x2 : Value) (pA : Nat) (pB : Nat), Kept [] W w' → IntsT w' x1 (l1) → IntsT w' x2 (l2) → Blk w' pA → W.heap.size ≤ pA → Blk w' pB → W.heap.size ≤ pB → pA ≠ pB → G 3 #[true, true, true, true, true, true, true, true, true, false, true, true, false, false] ((((T.setIfInBounds 50 (.agg #[.int .i64 (N : Nat), x1])).setIfInBounds 52 (.agg #[.int .i64 (N : Nat), x2])).setIfInBounds 11 (.pointer (some ⟨pA, 0, none⟩))).setIfInBounds 12 (.pointer (some ⟨pB, 0, none⟩))) w' := by
    intro w' x1 x2 pA pB hS h1 h2 hbA hlA hbB hlB hne
    subst hG
    subst hT
    (try simp only [List.setIfInBounds_toArray, List.set_cons_zero, List.set_cons_succ])
    refine wpAnyH_ready (rs := [9]) (by kernel_rfl) (by simp) ?_
    refine AllReadyH.cons rfl (fun K hK => ?_) ?_
    · go_simp
      refine (HC3.out _ hS).mono ?_
      rintro e w9 ⟨v9, rfl, hv9, k9⟩
      refine hK.out _ _ ?_ (fun hS1 => ?_)
      · exact hS.trans0 k9
      clear hK K
      (try simp only [Act.put, List.setIfInBounds_toArray, List.set_cons_zero, List.set_cons_succ])
      refine wpAnyH_mask (l' := #[true, true, true, true, true, true, true, true, true, true, true, true, false, false]) (by kernel_rfl) ?_
      have hg := s3AB w9 x1 x2 v9 pA pB hS1 (h1.kept k9) (h2.kept k9) hv9 (hbA.kept k9) hlA (hbB.kept k9) hlB hne
      (try simp only [List.setIfInBounds_toArray, List.set_cons_zero, List.set_cons_succ] at hg)
      exact hg
    exact AllReadyH.nil
  have s3A : ∀ (w' : World) (x1 : Value) (x2 : Value) (x3 : Value) (pA : Nat), Kept [] W w' → IntsT w' x1 (l1) → IntsT w' x2 (l2) → IntsT w' x3 (l3) → Blk w' pA → W.heap.size ≤ pA → G 3 #[true, true, true, true, true, true, true, true, true, true, true, false, false, false] ((((T.setIfInBounds 50 (.agg #[.int .i64 (N : Nat), x1])).setIfInBounds 52 (.agg #[.int .i64 (N : Nat), x2])).setIfInBounds 57 (.agg #[.int .i64 (N : Nat), x3])).setIfInBounds 11 (.pointer (some ⟨pA, 0, none⟩))) w' := by
    intro w' x1 x2 x3 pA hS h1 h2 h3 hbA hlA
    subst hG
    subst hT
    (try simp only [List.setIfInBounds_toArray, List.set_cons_zero, List.set_cons_succ])
    refine wpAnyH_ready (rs := [11]) (by kernel_rfl) (by simp) ?_
    refine AllReadyH.cons rfl (fun K hK => ?_) ?_
    · have kn : Kept [] w' (w'.alloc (.cells #[.int .i64 0, .slice none 0 0] 24)) := (Kept.refl _ _).alloc _
      have hn : Blk (w'.alloc (.cells #[.int .i64 0, .slice none 0 0] 24)) w'.heap.size := heap_alloc_new w' _
      have hln : W.heap.size ≤ w'.heap.size := hS.size
      have hltn := lt_of_heap hbA
      go_simp
      refine hK.out _ _ ?_ (fun hS1 => ?_)
      · exact hS.trans0 kn
      clear hK K
      (try simp only [Act.put, List.setIfInBounds_toArray, List.set_cons_zero, List.set_cons_succ])
      refine wpAnyH_mask (l' := #[true, true, true, true, true, true, true, true, true, true, true, true, false, false]) (by kernel_rfl) ?_
      have hg := s3AB _ x1 x2 x3 pA w'.heap.size hS1 (h1.kept kn) (h2.kept kn) (h3.kept kn) (hbA.kept kn) hlA hn hln (by omega)
      (try simp only [List.setIfInBounds_toArray, List.set_cons_zero, List.set_cons_succ] at hg)
      exact hg
    exact AllReadyH.nil
  have s3B : ∀ (w' : World) (x1 : Value) (x2 : Value) (x3 : Value) (pB : Nat), Kept [] W w' → IntsT w' x1 (l1) → IntsT w' x2 (l2) → IntsT w' x3 (l3) → Blk w' pB → W.heap.size ≤ pB → G 3 #[true, true, true, true, true, true, true, true, true, true, false, true, false, false] ((((T.setIfInBounds 50 (.agg #[.int .i64 (N : Nat), x1])).setIfInBounds 52 (.agg #[.int .i64 (N : Nat), x2])).setIfInBounds 57 (.agg #[.int .i64 (N : Nat), x3])).setIfInBounds 12 (.pointer (some ⟨pB, 0, none⟩))) w' := by
    intro w' x1 x2 x3 pB hS h1 h2 h3 hbB hlB
    subst hG
    subst hT
    (try simp only [List.setIfInBounds_toArray, List.set_cons_zero, List.set_cons_succ])
    refine wpAnyH_ready (rs := [10]) (by kernel_rfl) (by simp) ?_
    refine AllReadyH.cons rfl (fun K hK => ?_) ?_
    · have kn : Kept [] w' (w'.alloc (.cells #[.int .i64 0, .slice none 0 0] 24)) := (Kept.refl _ _).alloc _
      have hn : Blk (w'.alloc (.cells #[.int .i64 0, .slice none 0 0] 24)) w'.heap.size := heap_alloc_new w' _
      have hln : W.heap.size ≤ w'.heap.size := hS.size
      have hltn := lt_of_heap hbB
      go_simp
      refine hK.out _ _ ?_ (fun hS1 => ?_)
      · exact hS.trans0 kn
      clear hK K
      (try simp only [Act.put, List.setIfInBounds_toArray, List.set_cons_zero, List.set_cons_succ])
      refine wpAnyH_mask (l' := #[true, true, true, true, true, true, true, true, true, true, true, true, false, false]) (by kernel_rfl) ?_
      have hg := s3AB _ x1 x2 x3 w'.heap.size pB hS1 (h1.kept kn) (h2.kept kn) (h3.kept kn) hn hln (hbB.kept kn) hlB (by omega)
      (try simp only [List.setIfInBounds_toArray, List.set_cons_zero, List.set_cons_succ] at hg)
      exact hg
    exact AllReadyH.nil
  have s1AB : ∀ (w' : World) (x1 : Value) (pA : Nat) (pB : Nat), Kept [] W w' → IntsT w' x1 (l1) → Blk w' pA → W.heap.size ≤ pA → Blk w' pB → W.heap.size ≤ pB → pA ≠ pB → G 4 #[true, true, true, true, false, true, true, true, true, false, true, true, false, false] (((T.setIfInBounds 50 (.agg #[.int .i64 (N : Nat), x1])).setIfInBounds 11 (.pointer (some ⟨pA, 0, none⟩))).setIfInBounds 12 (.pointer (some ⟨pB, 0, none⟩))) w' := by
    intro w' x1 pA pB hS h1 hbA hlA hbB hlB hne
    subst hG
    subst hT
    (try simp only [List.setIfInBounds_toArray, List.set_cons_zero, List.set_cons_succ])
    refine wpAnyH_ready (rs := [4]) (by kernel_rfl) (by simp) ?_
    refine AllReadyH.cons rfl (fun K hK => ?_) ?_
    · go_simp
      refine (HC2.out _ x1 h1).mono ?_
      rintro e w9 ⟨v9, rfl, hv9, k9⟩
      refine hK.out _ _ ?_ (fun hS1 => ?_)
      · exact hS.trans0 k9
      clear hK K
      (try simp only [Act.put, List.setIfInBounds_toArray, List.set_cons_zero, List.set_cons_succ])
      refine wpAnyH_mask (l' := #[true, true, true, true, true, true, true, true, true, false, true, true, false, false]) (by kernel_rfl) ?_
      have hg := s2AB w9 x1 v9 pA pB hS1 (h1.kept k9) hv9 (hbA.kept k9) hlA (hbB.kept k9) hlB hne
      (try simp only [List.setIfInBounds_toArray, List.set_cons_zero, List.set_cons_succ] at hg)
      exact hg
    exact AllReadyH.nil
  have s2A : ∀ (w' : World) (x1 : Value) (x2 : Value) (pA : Nat), Kept [] W w' → IntsT w' x1 (l1) → IntsT w' x2 (l2) → Blk w' pA → W.heap.size ≤ pA → G 4 #[true, true, true, true, true, true, true, true, true, false, true, false, false, false] (((T.setIfInBounds 50 (.agg #[.int .i64 (N : Nat), x1])).setIfInBounds 52 (.agg #[.int .i64 (N : Nat), x2])).setIfInBounds 11 (.pointer (some ⟨pA, 0, none⟩))) w' := by
    intro w' x1 x2 pA hS h1 h2 hbA hlA
    subst hG
    subst hT
    (try simp only [List.setIfInBounds_toArray, List.set_cons_zero, List.set_cons_succ])
    refine wpAnyH_ready (rs := [9, 11]) (by kernel_rfl) (by simp) ?_
    refine AllReadyH.cons rfl (fun K hK => ?_) ?_
    · go_simp
      refine (HC3.out _ hS).mono ?_
      rintro e w9 ⟨v9, rfl, hv9, k9⟩
      refine hK.out _ _ ?_ (fun hS1 => ?_)
      · exact hS.trans0 k9
      clear hK K
      (try simp only [Act.put, List.setIfInBounds_toArray, List.set_cons_zero, List.set_cons_succ])
      refine wpAnyH_mask (l' := #[true, true, true, true, true, true, true, true, true, true, true, false, false, false]) (by kernel_rfl) ?_
      have hg := s3A w9 x1 x2 v9 pA hS1 (h1.kept k9) (h2.kept k9) hv9 (hbA.kept k9) hlA
      (try simp only [List.setIfInBounds_toArray, List.set_cons_zero, List.set_cons_succ] at hg)
      exact hg
    refine AllReadyH.cons rfl (fun K hK => ?_) ?_
    · have kn : Kept [] w' (w'.alloc (.cells #[.int .i64 0, .slice none 0 0] 24)) := (Kept.refl _ _).alloc _
      have hn : Blk (w'.alloc (.cells #[.int .i64 0, .slice none 0 0] 24)) w'.heap.size := heap_alloc_new w' _
      have hln : W.heap.size ≤ w'.heap.size := hS.size
      have hltn := lt_of_heap hbA
      go_simp
      refine hK.out _ _ ?_ (fun hS1 => ?_)
      · exact hS.trans0 kn
      clear hK K
      (try simp only [Act.put, List.setIfInBounds_toArray, List.set_cons_zero, List.set_cons_succ])
      refine wpAnyH_mask (l' := #[true, true, true, true, true, true, true, true, true, false, true, true, false, false]) (by kernel_rfl) ?_
      have hg := s2AB _ x1 x2 pA w'.heap.size hS1 (h1.kept kn) (h2.kept kn) (hbA.kept kn) hlA hn hln (by omega)
      (try simp only [List.setIfInBounds_toArray, List.set_cons_zero, List.set_cons_succ] at hg)
      exact hg
    exact AllReadyH.nil
  have s2B : ∀ (w' : World) (x1 : Value) (x2 : Value) (pB : Nat), Kept [] W w' → IntsT w' x1 (l1) → IntsT w' x2 (l2) → Blk w' pB → W.heap.size ≤ pB → G 4 #[true, true, true, true, true, true, true, true, true, false, false, true, false, false] (((T.setIfInBounds 50 (.agg #[.int .i64 (N : Nat), x1])).setIfInBounds 52 (.agg #[.int .i64 (N : Nat), x2])).setIfInBounds 12 (.pointer (some ⟨pB, 0, none⟩))) w' := by
    intro w' x1 x2 pB hS h1 h2 hbB hlB
    subst hG
    subst hT
    (try simp only [List.setIfInBounds_toArray, List.set_cons_zero, List.set_cons_succ])
    refine wpAnyH_ready (rs := [9, 10]) (by kernel_rfl) (by simp) ?_
    refine AllReadyH.cons rfl (fun K hK => ?_) ?_
    · go_simp
      refine (HC3.out _ hS).mono ?_
      rintro e w9 ⟨v9, rfl, hv9, k9⟩
      refine hK.out _ _ ?_ (fun hS1 => ?_)
      · exact hS.trans0 k9
      clear hK K
      (try simp only [Act.put, List.setIfInBounds_toArray, List.set_cons_zero, List.set_cons_succ])
      refine wpAnyH_mask (l' := #[true, true, true, true, true, true, true, true, true, true, false, true, false, false]) (by kernel_rfl) ?_
      have hg := s3B w9 x1 x2 v9 pB hS1 (h1.kept k9) (h2.kept k9) hv9 (hbB.kept k9) hlB
      (try simp only [List.setIfInBounds_toArray, List.set_cons_zero, List.set_cons_succ] at hg)
      exact hg
    refine AllReadyH.cons rfl (fun K hK => ?_) ?_
    · have kn : Kept [] w' (w'.alloc (.cells #[.int .i64 0, .slice none 0 0] 24)) := (Kept.refl _ _).alloc _
      have hn : Blk (w'.alloc (.cells #[.int .i64 0, .slice none 0 0] 24)) w'.heap.size := heap_alloc_new w' _
      have hln : W.heap.size ≤ w'.heap.size := hS.size
      have hltn := lt_of_heap hbB
      go_simp
      refine hK.out _ _ ?_ (fun hS1 => ?_)
      · exact hS.trans0 kn
      clear hK K
      (try simp only [Act.put, List.setIfInBounds_toArray, List.set_cons_zero, List.set_cons_succ])
      refine wpAnyH_mask (l' := #[true, true, true, true, true, true, true, true, true, false, true, true, false, false]) (by kernel_rfl) ?_
      have hg := s2AB _ x1 x2 w'.heap.size pB hS1 (h1.kept kn) (h2.kept kn) hn hln (hbB.kept kn) hlB (by omega)
      (try simp only [List.setIfInBounds_toArray, List.set_cons_zero, List.set_cons_succ] at hg)
      exact hg
    exact AllReadyH.nil
  have s3 : ∀ (w' : World) (x1 : Value) (x2 : Value) (x3 : Value), Kept [] W w' → IntsT w' x1 (l1) → IntsT w' x2 (l2) → IntsT w' x3 (l3) → G 4 #[true, true, true, true, true, true, true, true, true, true, false, false, false, false] (((T.setIfInBounds 50 (.agg #[.int .i64 (N : Nat), x1])).setIfInBounds 52 (.agg #[.int .i64 (N : Nat), x2])).setIfInBounds 57 (.agg #[.int .i64 (N : Nat), x3])) w' := by
    intro w' x1 x2 x3 hS h1 h2 h3
    subst hG
    subst hT
    (try simp only [List.setIfInBounds_toArray, List.set_cons_zero, List.set_cons_succ])
    refine wpAnyH_ready (rs := [10, 11]) (by kernel_rfl) (by simp) ?_
    refine AllReadyH.cons rfl (fun K hK => ?_) ?_
    · have kn : Kept [] w' (w'.alloc (.cells #[.int .i64 0, .slice none 0 0] 24)) := (Kept.refl _ _).alloc _
      have hn : Blk (w'.alloc (.cells #[.int .i64 0, .slice none 0 0] 24)) w'.heap.size := heap_alloc_new w' _
      have hln : W.heap.size ≤ w'.heap.size := hS.size
      go_simp
      refine hK.out _ _ ?_ (fun hS1 => ?_)
      · exact hS.trans0 kn
      clear hK K
      (try simp only [Act.put, List.setIfInBounds_toArray, List.set_cons_zero, List.set_cons_succ])
      refine wpAnyH_mask (l' := #[true, true, true, true, true, true, true, true, true, true, true, false, false, false]) (by kernel_rfl) ?_
      have hg := s3A _ x1 x2 x3 w'.heap.size hS1 (h1.kept kn) (h2.kept kn) (h3.kept kn) hn hln
      (try simp only [List.setIfInBounds_toArray, List.set_cons_zero, List.set_cons_succ] at hg)
      exact hg
    refine AllReadyH.cons rfl (fun K hK => ?_) ?_
    · have kn : Kept [] w' (w'.alloc (.cells #[.int .i64 0, .slice none 0 0] 24)) := (Kept.refl _ _).alloc _
      have hn : Blk (w'.alloc (.cells #[.int .i64 0, .slice none 0 0] 24)) w'.heap.size := heap_alloc_new w' _
      have hln : W.heap.size ≤ w'.heap.size := hS.size
      go_simp
      refine hK.out _ _ ?_ (fun hS1 => ?_)
      · exact hS.trans0 kn
      clear hK K
      (try simp only [Act.put, List.setIfInBounds_toArray, List.set_cons_zero, List.set_cons_succ])
      refine wpAnyH_mask (l' := #[true, true, true, true, true, true, true, true, true, true, false, true, false, false]) (by kernel_rfl) ?_
      have hg := s3B _ x1 x2 x3 w'.heap.size hS1 (h1.kept kn) (h2.kept kn) (h3.kept kn) hn hln
      (try simp only [List.setIfInBounds_toArray, List.set_cons_zero, List.set_cons_succ] at hg)
      exact hg
    exact AllReadyH.nil
  have s0AB : ∀ (w' : World) (pA : Nat) (pB : Nat), Kept [] W w' → Blk w' pA → W.heap.size ≤ pA → Blk w' pB → W.heap.size ≤ pB → pA ≠ pB → G 5 #[true, true, false, true, false, true, true, true, true, false, true, true, false, false] ((T.setIfInBounds 11 (.pointer (some ⟨pA, 0, none⟩))).setIfInBounds 12 (.pointer (some ⟨pB, 0, none⟩))) w' := by
    intro w' pA pB hS hbA hlA hbB hlB hne
    subst hG
    subst hT
    (try simp only [List.setIfInBounds_toArray, List.set_cons_zero, List.set_cons_succ])
    refine wpAnyH_ready (rs := [2]) (by kernel_rfl) (by simp) ?_
    refine AllReadyH.cons rfl (fun K hK => ?_) ?_
    · go_simp
      refine (HC1.out _ hS).mono ?_
      rintro e w9 ⟨v9, rfl, hv9, k9⟩
      refine hK.out _ _ ?_ (fun hS1 => ?_)
      · exact hS.trans0 k9
      clear hK K
      (try simp only [Act.put, List.setIfInBounds_toArray, List.set_cons_zero, List.set_cons_succ])
      refine wpAnyH_mask (l' := #[true, true, true, true, false, true, true, true, true, false, true, true, false, false]) (by kernel_rfl) ?_
      have hg := s1AB w9 v9 pA pB hS1 hv9 (hbA.kept k9) hlA (hbB.kept k9) hlB hne
      (try simp only [List.setIfInBounds_toArray, List.set_cons_zero, List.set_cons_succ] at hg)
      exact hg
    exact AllReadyH.nil
  have s1A : ∀ (w' : World) (x1 : Value) (pA : Nat), Kept [] W w' → IntsT w' x1 (l1) → Blk w' pA → W.heap.size ≤ pA → G 5 #[true, true, true, true, false, true, true, true, true, false, true, false, false, false] ((T.setIfInBounds 50 (.agg #[.int .i64 (N : Nat), x1])).setIfInBounds 11 (.pointer (some ⟨pA, 0, none⟩))) w' := by
    intro w' x1 pA hS h1 hbA hlA
    subst hG
    subst hT
    (try simp only [List.setIfInBounds_toArray, List.set_cons_zero, List.set_cons_succ])
    refine wpAnyH_ready (rs := [4, 11]) (by kernel_rfl) (by simp) ?_
    refine AllReadyH.cons rfl (fun K hK => ?_) ?_
    · go_simp
      refine (HC2.out _ x1 h1).mono ?_
      rintro e w9 ⟨v9, rfl, hv9, k9⟩
      refine hK.out _ _ ?_ (fun hS1 => ?_)
      · exact hS.trans0 k9
      clear hK K
      (try simp only [Act.put, List.setIfInBounds_toArray, List.set_cons_zero, List.set_cons_succ])
      refine wpAnyH_mask (l' := #[true, true, true, true, true, true, true, true, true, false, true, false, false, false]) (by kernel_rfl) ?_
      have hg := s2A w9 x1 v9 pA hS1 (h1.kept k9) hv9 (hbA.kept k9) hlA
      (try simp only [List.setIfInBounds_toArray, List.set_cons_zero, List.set_cons_succ] at hg)
      exact hg
    refine AllReadyH.cons rfl (fun K hK => ?_) ?_
    · have kn : Kept [] w' (w'.alloc (.cells #[.int .i64 0, .slice none 0 0] 24)) := (Kept.refl _ _).alloc _
      have hn : Blk (w'.alloc (.cells #[.int .i64 0, .slice none 0 0] 24)) w'.heap.size := heap_alloc_new w' _
      have hln : W.heap.size ≤ w'.heap.size := hS.size
      have hltn := lt_of_heap hbA
      go_simp
      refine hK.out _ _ ?_ (fun hS1 => ?_)
      · exact hS.trans0 kn
      clear hK K
      (try simp only [Act.put, List.setIfInBounds_toArray, List.set_cons_zero, List.set_cons_succ])
      refine wpAnyH_mask (l' := #[true, true, true, true, false, true, true, true, true, false, true, true, false, false]) (by kernel_rfl) ?_
      have hg := s1AB _ x1 pA w'.heap.size hS1 (h1.kept kn) (hbA.kept kn) hlA hn hln (by omega)
      (try simp only [List.setIfInBounds_toArray, List.set_cons_zero, List.set_cons_succ] at hg)
      exact hg
    exact AllReadyH.nil
  have s1B : ∀ (w' : World) (x1 : Value) (pB : Nat), Kept [] W w' → IntsT w' x1 (l1) → Blk w' pB → W.heap.size ≤ pB → G 5 #[true, true, true, true, false, true, true, true, true, false, false, true, false, false] ((T.setIfInBounds 50 (.agg #[.int .i64 (N : Nat), x1])).setIfInBounds 12 (.pointer (some ⟨pB, 0, none⟩))) w' := by
    intro w' x1 pB hS h1 hbB hlB
    subst hG
    subst hT
    (try simp only [List.setIfInBounds_toArray, List.set_cons_zero, List.set_cons_succ])
    refine wpAnyH_ready (rs := [4, 10]) (by kernel_rfl) (by simp) ?_
    refine AllReadyH.cons rfl (fun K hK => ?_) ?_
    · go_simp
      refine (HC2.out _ x1 h1).mono ?_
      rintro e w9 ⟨v9, rfl, hv9, k9⟩
      refine hK.out _ _ ?_ (fun hS1 => ?_)
      · exact hS.trans0 k9
      clear hK K
      (try simp only [Act.put, List.setIfInBounds_toArray, List.set_cons_zero, List.set_cons_succ])
      refine wpAnyH_mask (l' := #[true, true, true, true, true, true, true, true, true, false, false, true, false, false]) (by kernel_rfl) ?_
      have hg := s2B w9 x1 v9 pB hS1 (h1.kept k9) hv9 (hbB.kept k9) hlB
      (try simp only [List.setIfInBounds_toArray, List.set_cons_zero, List.set_cons_succ] at hg)
      exact hg
    refine AllReadyH.cons rfl (fun K hK => ?_) ?_
    · have kn : Kept [] w' (w'.alloc (.cells #[.int .i64 0, .slice none 0 0] 24)) := (Kept.refl _ _).alloc _
      have hn : Blk (w'.alloc (.cells #[.int .i64 0, .slice none 0 0] 24)) w'.heap.size := heap_alloc_new w' _
      have hln : W.heap.size ≤ w'.heap.size := hS.size
      have hltn := lt_of_heap hbB
      go_simp
      refine hK.out _ _ ?_ (fun hS1 => ?_)
      · exact hS.trans0 kn
      clear hK K
      (try simp only [Act.put, List.setIfInBounds_toArray, List.set_cons_zero, List.set_cons_succ])
      refine wpAnyH_mask (l' := #[true, true, true, true, false, true, true, true, true, false, true, true, false, false]) (by kernel_rfl) ?_
      have hg := s1AB _ x1 w'.heap.size pB hS1 (h1.kept kn) hn hln (hbB.kept kn) hlB (by omega)
      (try simp only [List.setIfInBounds_toArray, List.set_cons_zero, List.set_cons_succ] at hg)
      exact hg
    exact AllReadyH.nil
  have s2 : ∀ (w' : World) (x1 : Value) (x2 : Value), Kept [] W w' → IntsT w' x1 (l1) → IntsT w' x2 (l2) → G 5 #[true, true, true, true, true, true, true, true, true, false, false, false, false, false] ((T.setIfInBounds 50 (.agg #[.int .i64 (N : Nat), x1])).setIfInBounds 52 (.agg #[.int .i64 (N : Nat), x2])) w' := by
    intro w' x1 x2 hS h1 h2
    subst hG
    subst hT
    (try simp only [List.setIfInBounds_toArray, List.set_cons_zero, List.set_cons_succ])
    refine wpAnyH_ready (rs := [9, 10, 11]) (by kernel_rfl) (by simp) ?_
    refine AllReadyH.cons rfl (fun K hK => ?_) ?_
    · go_simp
      refine (HC3.out _ hS).mono ?_
      rintro e w9 ⟨v9, rfl, hv9, k9⟩
      refine hK.out _ _ ?_ (fun hS1 => ?_)
      · exact hS.trans0 k9
      clear hK K
      (try simp only [Act.put, List.setIfInBounds_toArray, List.set_cons_zero, List.set_cons_succ])
      refine wpAnyH_mask (l' := #[true, true, true, true, true, true, true, true, true, true, false, false, false, false]) (by kernel_rfl) ?_
      have hg := s3 w9 x1 x2 v9 hS1 (h1.kept k9) (h2.kept k9) hv9
      (try simp only [List.setIfInBounds_toArray, List.set_cons_zero, List.set_cons_succ] at hg)
      exact hg
    refine AllReadyH.cons rfl (fun K hK => ?_) ?_
    · have kn : Kept [] w' (w'.alloc (.cells #[.int .i64 0, .slice none 0 0] 24)) := (Kept.refl _ _).alloc _
      have hn : Blk (w'.alloc (.cells #[.int .i64 0, .slice none 0 0] 24)) w'.heap.size := heap_alloc_new w' _
      have hln : W.heap.size ≤ w'.heap.size := hS.size
      go_simp
      refine hK.out _ _ ?_ (fun hS1 => ?_)
      · exact hS.trans0 kn
      clear hK K
      (try simp only [Act.put, List.setIfInBounds_toArray, List.set_cons_zero, List.set_cons_succ])
      refine wpAnyH_mask (l' := #[true, true, true, true, true, true, true, true, true, false, true, false, false, false]) (by kernel_rfl) ?_
      have hg := s2A _ x1 x2 w'.heap.size hS1 (h1.kept kn) (h2.kept kn) hn hln
      (try simp only [List.setIfInBounds_toArray, List.set_cons_zero, List.set_cons_succ] at hg)
      exact hg
    refine AllReadyH.cons rfl (fun K hK => ?_) ?_
    · have kn : Kept [] w' (w'.alloc (.cells #[.int .i64 0, .slice none 0 0] 24)) := (Kept.refl _ _).alloc _
      have hn : Blk (w'.alloc (.cells #[.int .i64 0, .slice none 0 0] 24)) w'.heap.size := heap_alloc_new w' _
      have hln : W.heap.size ≤ w'.heap.size := hS.size
      go_simp
      refine hK.out _ _ ?_ (fun hS1 => ?_)
      · exact hS.trans0 kn
      clear hK K
      (try simp only [Act.put, List.setIfInBounds_toArray, List.set_cons_zero, List.set_cons_succ])
      refine wpAnyH_mask (l' := #[true, true, true, true, true, true, true, true, true, false, false, true, false, false]) (by kernel_rfl) ?_
      have hg := s2B _ x1 x2 w'.heap.size hS1 (h1.kept kn) (h2.kept kn) hn hln
      (try simp only [List.setIfInBounds_toArray, List.set_cons_zero, List.set_cons_succ] at hg)
      exact hg
    exact AllReadyH.nil
  have s0A : ∀ (w' : World) (pA : Nat), Kept [] W w' → Blk w' pA → W.heap.size ≤ pA → G 6 #[true, true, false, true, false, true, true, true, true, false, true, false, false, false] (T.setIfInBounds 11 (.pointer (some ⟨pA, 0, none⟩))) w' := by
    intro w' pA hS hbA hlA
    subst hG
    subst hT
    (try simp only [List.setIfInBounds_toArray, List.set_cons_zero, List.set_cons_succ])
    refine wpAnyH_ready (rs := [2, 11]) (by kernel_rfl) (by simp) ?_
    refine AllReadyH.cons rfl (fun K hK => ?_) ?_
    · go_simp
      refine (HC1.out _ hS).mono ?_
      rintro e w9 ⟨v9, rfl, hv9, k9⟩
      refine hK.out _ _ ?_ (fun hS1 => ?_)
      · exact hS.trans0 k9
      clear hK K
      (try simp only [Act.put, List.setIfInBounds_toArray, List.set_cons_zero, List.set_cons_succ])
      refine wpAnyH_mask (l' := #[true, true, true, true, false, true, true, true, true, false, true, false, false, false]) (by kernel_rfl) ?_
      have hg := s1A w9 v9 pA hS1 hv9 (hbA.kept k9) hlA
      (try simp only [List.setIfInBounds_toArray, List.set_cons_zero, List.set_cons_succ] at hg)
      exact hg
    refine AllReadyH.cons rfl (fun K hK => ?_) ?_
    · have kn : Kept [] w' (w'.alloc (.cells #[.int .i64 0, .slice none 0 0] 24)) := (Kept.refl _ _).alloc _
      have hn : Blk (w'.alloc (.cells #[.int .i64 0, .slice none 0 0] 24)) w'.heap.size := heap_alloc_new w' _
      have hln : W.heap.size ≤ w'.heap.size := hS.size
      have hltn := lt_of_heap hbA
      go_simp
      refine hK.out _ _ ?_ (fun hS1 => ?_)
      · exact hS.trans0 kn
      clear hK K
      (try simp only [Act.put, List.setIfInBounds_toArray, List.set_cons_zero, List.set_cons_succ])
      refine wpAnyH_mask (l' := #[true, true, false, true, false, true, true, true, true, false, true, true, false, false]) (by kernel_rfl) ?_
      have hg := s0AB _ pA w'.heap.size hS1 (hbA.kept kn) hlA hn hln (by omega)
      (try simp only [List.setIfInBounds_toArray, List.set_cons_zero, List.set_cons_succ] at hg)
      exact hg
    exact AllReadyH.nil
  have s0B : ∀ (w' : World) (pB : Nat), Kept [] W w' → Blk w' pB → W.heap.size ≤ pB → G 6 #[true, true, false, true, false, true, true, true, true, false, false, true, false, false] (T.setIfInBounds 12 (.pointer (some ⟨pB, 0, none⟩))) w' := by
    intro w' pB hS hbB hlB
    subst hG
    subst hT
    (try simp only [List.setIfInBounds_toArray, List.set_cons_zero, List.set_cons_succ])
    refine wpAnyH_ready (rs := [2, 10]) (by kernel_rfl) (by simp) ?_
    refine AllReadyH.cons rfl (fun K hK => ?_) ?_
    · go_simp
      refine (HC1.out _ hS).mono ?_
      rintro e w9 ⟨v9, rfl, hv9, k9⟩
      refine hK.out _ _ ?_ (fun hS1 => ?_)
      · exact hS.trans0 k9
      clear hK K
      (try simp only [Act.put, List.setIfInBounds_toArray, List.set_cons_zero, List.set_cons_succ])
      refine wpAnyH_mask (l' := #[true, true, true, true, false, true, true, true, true, false, false, true, false, false]) (by kernel_rfl) ?_
      have hg := s1B w9 v9 pB hS1 hv9 (hbB.kept k9) hlB
      (try simp only [List.setIfInBounds_toArray, List.set_cons_zero, List.set_cons_succ] at hg)
      exact hg
    refine AllReadyH.cons rfl (fun K hK => ?_) ?_
    · have kn : Kept [] w' (w'.alloc (.cells #[.int .i64 0, .slice none 0 0] 24)) := (Kept.refl _ _).alloc _
      have hn : Blk (w'.alloc (.cells #[.int .i64 0, .slice none 0 0] 24)) w'.heap.size := heap_alloc_new w' _
      have hln : W.heap.size ≤ w'.heap.size := hS.size
      have hltn := lt_of_heap hbB
      go_simp
      refine hK.out _ _ ?_ (fun hS1 => ?_)
      · exact hS.trans0 kn
      clear hK K
      (try simp only [Act.put, List.setIfInBounds_toArray, List.set_cons_zero, List.set_cons_succ])
      refine wpAnyH_mask (l' := #[true, true, false, true, false, true, true, true, true, false, true, true, false, false]) (by kernel_rfl) ?_
      have hg := s0AB _ w'.heap.size pB hS1 hn hln (hbB.kept kn) hlB (by omega)
      (try simp only [List.setIfInBounds_toArray, List.set_cons_zero, List.set_cons_succ] at hg)
      exact hg
    exact AllReadyH.nil
  have s1 : ∀ (w' : World) (x1 : Value), Kept [] W w' → IntsT w' x1 (l1) → G 6 #[true, true, true, true, false, true, true, true, true, false, false, false, false, false] (T.setIfInBounds 50 (.agg #[.int .i64 (N : Nat), x1])) w' := by
    intro w' x1 hS h1
    subst hG
    subst hT
    (try simp only [List.setIfInBounds_toArray, List.set_cons_zero, List.set_cons_succ])
    refine wpAnyH_ready (rs := [4, 10, 11]) (by kernel_rfl) (by simp) ?_
    refine AllReadyH.cons rfl (fun K hK => ?_) ?_
    · go_simp
      refine (HC2.out _ x1 h1).mono ?_
      rintro e w9 ⟨v9, rfl, hv9, k9⟩
      refine hK.out _ _ ?_ (fun hS1 => ?_)
      · exact hS.trans0 k9
      clear hK K
      (try simp only [Act.put, List.setIfInBounds_toArray, List.set_cons_zero, List.set_cons_succ])
      refine wpAnyH_mask (l' := #[true, true, true, true, true, true, true, true, true, false, false, false, false, false]) (by kernel_rfl) ?_
      have hg := s2 w9 x1 v9 hS1 (h1.kept k9) hv9
      (try simp only [List.setIfInBounds_toArray, List.set_cons_zero, List.set_cons_succ] at hg)
      exact hg
    refine AllReadyH.cons rfl (fun K hK => ?_) ?_
    · have kn : Kept [] w' (w'.alloc (.cells #[.int .i64 0, .slice none 0 0] 24)) := (Kept.refl _ _).alloc _
      have hn : Blk (w'.alloc (.cells #[.int .i64 0, .slice none 0 0] 24)) w'.heap.size := heap_alloc_new w' _
      have hln : W.heap.size ≤ w'.heap.size := hS.size
      go_simp
      refine hK.out _ _ ?_ (fun hS1 => ?_)
      · exact hS.trans0 kn
      clear hK K
      (try simp only [Act.put, List.setIfInBounds_toArray, List.set_cons_zero, List.set_cons_succ])
      refine wpAnyH_mask (l' := #[true, true, true, true, false, true, true, true, true, false, true, false, false, false]) (by kernel_rfl) ?_
      have hg := s1A _ x1 w'.heap.size hS1 (h1.kept kn) hn hln
      (try simp only [List.setIfInBounds_toArray, List.set_cons_zero, List.set_cons_succ] at hg)
      exact hg
    refine AllReadyH.cons rfl (fun K hK => ?_) ?_
    · have kn : Kept [] w' (w'.alloc (.cells #[.int .i64 0, .slice none 0 0] 24)) := (Kept.refl _ _).alloc _
      have hn : Blk (w'.alloc (.cells #[.int .i64 0, .slice none 0 0] 24)) w'.heap.size := heap_alloc_new w' _
      have hln : W.heap.size ≤ w'.heap.size := hS.size
      go_simp
      refine hK.out _ _ ?_ (fun hS1 => ?_)
      · exact hS.trans0 kn
      clear hK K
      (try simp only [Act.put, List.setIfInBounds_toArray, List.set_cons_zero, List.set_cons_succ])
      refine wpAnyH_mask (l' := #[true, true, true, true, false, true, true, true, true, false, false, true, false, false]) (by kernel_rfl) ?_
      have hg := s1B _ x1 w'.heap.size hS1 (h1.kept kn) hn hln
      (try simp only [List.setIfInBounds_toArray, List.set_cons_zero, List.set_cons_succ] at hg)
      exact hg
    exact AllReadyH.nil
  have s0 : ∀ (w' : World), Kept [] W w' → G 7 #[true, true, false, true, false, true, true, true, true, false, false, false, false, false] T w' := by
    intro w' hS
    subst hG
    subst hT
    (try simp only [List.setIfInBounds_toArray, List.set_cons_zero, List.set_cons_succ])
    refine wpAnyH_ready (rs := [2, 10, 11]) (by kernel_rfl) (by simp) ?_
    refine AllReadyH.cons rfl (fun K hK => ?_) ?_
    · go_simp
      refine (HC1.out _ hS).mono ?_
      rintro e w9 ⟨v9, rfl, hv9, k9⟩
      refine hK.out _ _ ?_ (fun hS1 => ?_)
      · exact hS.trans0 k9
      clear hK K
      (try simp only [Act.put, List.setIfInBounds_toArray, List.set_cons_zero, List.set_cons_succ])
      refine wpAnyH_mask (l' := #[true, true, true, true, false, true, true, true, true, false, false, false, false, false]) (by kernel_rfl) ?_
      have hg := s1 w9 v9 hS1 hv9
      (try simp only [List.setIfInBounds_toArray, List.set_cons_zero, List.set_cons_succ] at hg)
      exact hg
    refine AllReadyH.cons rfl (fun K hK => ?_) ?_
    · have kn : Kept [] w' (w'.alloc (.cells #[.int .i64 0, .slice none 0 0] 24)) := (Kept.refl _ _).alloc _
      have hn : Blk (w'.alloc (.cells #[.int .i64 0, .slice none 0 0] 24)) w'.heap.size := heap_alloc_new w' _
      have hln : W.heap.size ≤ w'.heap.size := hS.size
      go_simp
      refine hK.out _ _ ?_ (fun hS1 => ?_)
      · exact hS.trans0 kn
      clear hK K
      (try simp only [Act.put, List.setIfInBounds_toArray, List.set_cons_zero, List.set_cons_succ])
      refine wpAnyH_mask (l' := #[true, true, false, true, false, true, true, true, true, false, true, false, false, false]) (by kernel_rfl) ?_
      have hg := s0A _ w'.heap.size hS1 hn hln
      (try simp only [List.setIfInBounds_toArray, List.set_cons_zero, List.set_cons_succ] at hg)
      exact hg
    refine AllReadyH.cons rfl (fun K hK => ?_) ?_
    · have kn : Kept [] w' (w'.alloc (.cells #[.int .i64 0, .slice none 0 0] 24)) := (Kept.refl _ _).alloc _
      have hn : Blk (w'.alloc (.cells #[.int .i64 0, .slice none 0 0] 24)) w'.heap.size := heap_alloc_new w' _
      have hln : W.heap.size ≤ w'.heap.size := hS.size
      go_simp
      refine hK.out _ _ ?_ (fun hS1 => ?_)
      · exact hS.trans0 kn
      clear hK K
      (try simp only [Act.put, List.setIfInBounds_toArray, List.set_cons_zero, List.set_cons_succ])
      refine wpAnyH_mask (l' := #[true, true, false, true, false, true, true, true, true, false, false, true, false, false]) (by kernel_rfl) ?_
      have hg := s0B _ w'.heap.size hS1 hn hln
      (try simp only [List.setIfInBounds_toArray, List.set_cons_zero, List.set_cons_succ] at hg)
      exact hg
    exact AllReadyH.nil
  exact s0 _ hS

theorem fnShiftTwice_c (L : Int) (i : Int) (k : Int) (v : Value) (zs : List Int) (w : World) (hv : IntsZ w v zs) (hlen : zs.length ≤ 9223372036854775807) (hL : -9223372036854775808 ≤ L) (hL2 : L ≤ 9223372036854775807) :
    Calls Try.prog 7 #[.agg #[.int .i64 L, v], .int .i64 i, .int .i64 k] w fun e w' => e = .returned (.bool true) ∧ Kept [] w w' := by
  by_cases hg : Good L zs ∧ 0 ≤ i ∧ i ≤ 2500 ∧ 0 ≤ k ∧ k ≤ 2500
  · have hg0 := hg
    obtain ⟨hg1, pi, ri, pk, rk⟩ := hg
    obtain ⟨Ln, on, rfl, q1, q2, q3, q4⟩ := hv.good hg1
    obtain ⟨i, rfl⟩ := Int.eq_ofNat_of_zero_le pi
    obtain ⟨k, rfl⟩ := Int.eq_ofNat_of_zero_le pk
    by_cases hbig : i + k ≤ 2500
    · by_cases hfar : lst (memOf on) (lenOf Ln on) = 0 ∨ i + k + 1 < lst (memOf on) (lenOf Ln on)
      · exact fnShiftTwice_good Ln i k v on w q4 q1 q2 q3 (by omega) (by omega) hbig hfar
      · exact fnShiftTwice_un Ln i k v on w q4 q1 q2 q3 (by omega) (by omega) hbig (by omega)
    · exact fnShiftTwice_big Ln i k v on w q4 q1 q2 q3 (by omega) (by omega) (by omega)
  · exact fnShiftTwice_bad L i k v zs w hv hlen hL hL2 hg

open Go.ChangeShapes Go.WideShapes Go.ChangeAt Go.Joins

set_option maxRecDepth 100000 in
theorem fnShiftTwice_lifted (os : Os) (started : os.Started) (H : Type) (enc : TypeId × Value → H) :
    ReturnsInHanded {} Try.checked os 7 .any (Rows.fnShiftTwiceSpec.pre6 enc Try.prog Try.f7 Rows.fnShiftTwiceRow.domain false) (Rows.fnShiftTwiceSpec.post enc Try.prog Try.f7 false true false false) := by
  refine returnsInHanded_of_change (C := Try.checked) Try.own started (by kernel_rfl) Try.func7
    (ChangeSpec.witness6 (enc := enc) (C := Try.checked) false ⟨#[], #[.agg #[.int .i64 0, .slice none 0 0], .int .i64 0, .int .i64 0], []⟩ 8 (by kernel_rfl) (by kernel_rfl) (by kernel_rfl) (by kernel_rfl)) ?_
  intro W base args ds gs before hval0 hW _ _
  have hval : ∀ (j : Nat) t v, Try.f7.params[j]? = some t → args[j]? = some v → Value.okWide Try.prog W .any base t v := hval0
  have hW' := hW
  obtain ⟨p, q, hA0, hV, rfl, _, _⟩ := hW
  have hA : DataW.TrodAll enc Try.prog W 0 (fun _ => true) true Try.f7.params.toList args.toList ds p := hA0
  rw [Try.params7] at hA hval
  obtain ⟨v0, v1, v2, d0, d1, d2, p0, p1, p2, rfl, rfl, rfl, h0, h1, h2⟩ := trodAll_three hA
  obtain ⟨rfl, rfl⟩ := trodVars_none hV
  obtain ⟨k, rfl, rfl, rfl, wi2⟩ := open_int Try.underlying3 (hval 2 3 v2 rfl rfl) h2
  obtain ⟨i, rfl, rfl, rfl, wi1⟩ := open_int Try.underlying3 (hval 1 3 v1 rfl rfl) h1
  obtain ⟨L0, s0, zs0, rfl, hz0, hlen0, hL0, hR0⟩ := bits_read (hval 0 24 v0 rfl rfl) h0
  clear hA0 hval0
  simp only [List.append_nil] at hW'
  have hlt0 : ∀ x ∈ p0, x.block < W.heap.size := fun x hx => by simpa using hW'.lt x hx
  refine (fnShiftTwice_c L0 i k s0 zs0 W hz0 hlen0 hL0 hR0).mono fun e W' ⟨he, hk⟩ => ?_
  subst he
  have hb := hk.below
  refine ⟨_, rfl, _, _, _, [], p0 ++ ([] ++ []), [], hW', ?_, ?_, rfl, hb.frame _, fun h => by cases h⟩
  · exact trodAll_mk1 (shut_bool Try.underlying4 true)
  · exact trodAll_mk3 (Below.trod Try.laidOut (by kernel_rfl) (of_decide_eq_true (by kernel_rfl)) h0 hb hlt0) (shut_int Try.underlying3 wi1) (shut_int Try.underlying3 wi2)

theorem fnShiftTwice_holds : Rows.FnShiftTwiceSaid :=
  OpenClaim.holds_of_wide 7 Try.f7 rfl rfl rfl rfl rfl rfl rfl ⟨rfl, rfl, rfl, rfl, rfl⟩ rfl rfl rfl rfl rfl (by kernel_rfl) Try.func7 (by kernel_rfl)
    (of_decide_eq_true (by kernel_rfl)) (by unfold Func.isWrapper; first | (rw [if_pos (by decide +kernel)]; kernel_rfl) | (rw [if_neg (by decide +kernel)]; exact ⟨rfl, rfl⟩))
    (fun os started H enc _ => fnShiftTwice_lifted os started H enc)

end Go.Proofs.Ytiaghdnhapiioaa

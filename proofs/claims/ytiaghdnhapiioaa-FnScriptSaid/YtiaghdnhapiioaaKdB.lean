/-
  The reference's step 3.
-/
import Derived.Test.YtiaghdnhapiioaaLeast
namespace Go.Proofs.Ytiaghdnhapiioaa
set_option linter.unusedSimpArgs false
set_option linter.unusedVariables false
open Go.RowKit

set_option maxHeartbeats 2000000 in
set_option maxRecDepth 100000 in
theorem dk3t_c (s : Value) (n i : Nat) (f : Nat → Bool) (t : Bool) (w : World) (hs : SpecSet w s n f t) (hn : n ≤ 6000) (hi : i ≤ 2500) (k : Nat) (hk : k ≤ 2500) (hk0 : k ≠ 0) :
    Calls Try.prog 13 #[s, .agg #[.int .i64 3, .int .i64 i, .int .i64 k]] w fun e w' => ∃ s', e = .returned (.tuple #[s', .bool true]) ∧ SpecSet w' s' (max n (i + 1)) (fun j => (j == i) || (decide (j < n) && f j)) t ∧ Kept [] w w' := by
  obtain ⟨b, c, rfl⟩ := hs.shape
  have D0 := DoB.start w b c n t 3 i k
  have hB1 : ¬ (k : Int) < 0 := by omega
  have hB2 : ¬ (2500 : Int) < (k : Int) := by omega
  have k0 : Kept [] w (((w.alloc (.cells #[.slice (some ⟨b, 0, none⟩) n c, .bool t] 28)).alloc (.cells #[.int .i64 3, .int .i64 i, .int .i64 k] 34)).alloc (.cells #[.slice none 0 0, .bool false] 28)) := (((Kept.refl _ _).alloc _).alloc _).alloc _
  have h1 : ¬ (i : Int) < 0 := by omega
  have h2 : ¬ (2500 : Int) < (i : Int) := by omega
  have h3 : ¬ (6000 : Int) < (n : Int) := by omega
  by_cases h4 : (n : Int) < (i : Int) + 1
  all_goals
    have h5 : ¬ (k : Int) = 0 := by omega
    have hkb : ((k : Int) != 0) = true := by simp; omega
    first | have h6 : (n : Int) ≤ (i : Int) := by omega | have h6 : (i : Int) < (n : Int) := by omega
    go_enter Try.func13, Try.ntmps13
    go_wp2_with fail
    refine (from_c n _ rfl 23 #[.agg #[.slice (some ⟨b, 0, none⟩) n c, .bool t]] #[] _ _ (by omega) callFunc_At (at_closure _ n f t _ (hs.kept k0) n)).mono ?_
    rintro e w1 ⟨b1, rfl, r1, n1, k1⟩
    have D1 := D0.kept k1
    have hs' := hs.kept (k0.trans0 k1)
    obtain ⟨a0, a1, a2, a3, a4, a5, a6, a7, a8⟩ := D1.cells
    obtain ⟨l1, l2, l3⟩ := D1.lt
    go_wp2_with fail
    refine (from_c (max n (i + 1)) _ (by omega) 23 #[.agg #[.slice (some ⟨b, 0, none⟩) n c, .bool t]] #[] _ _ (by omega) callFunc_At (at_closure _ n f t _ (hs'.kept ((Kept.refl _ _).alloc _)) _)).mono ?_
    rintro e w2 ⟨b2, rfl, r2, n2, k2⟩
    obtain ⟨m, hm⟩ : ∃ m, max n (i + 1) = m := ⟨_, rfl⟩
    have him : i < m := by omega
    rw [hm] at r2 ⊢
    have HM := Lib.hid hm; clear hm
    have kz : Kept [] w1 (w1.alloc (.cells #[.slice (some ⟨b1, 0, none⟩) n n, .bool t] 28)) := (Kept.refl _ _).alloc _
    have gz := k2.heap (by simp) (heap_alloc_new w1 (.cells #[.slice (some ⟨b1, 0, none⟩) n n, .bool t] 28))
    have D2 := (D1.kept kz).kept k2
    clear a0 a1 a2 a3 a4 a5 a6 a7 a8
    obtain ⟨z0, z1, z2, z3, z4, z5⟩ := box2 gz (.slice (some ⟨b2, 0, none⟩) m m) (.bool true)
    have hZ : w.heap.size + 1 + 1 < w1.heap.size := l3
    have hb2w : w.heap.size ≤ b2 := by have := k1.size; simp at n2 this; omega
    have gW := setCell_heap_same (o := 1) (setCell_heap_same (o := 0) gz (.slice (some ⟨b2, 0, none⟩) m m)) (.bool true)
    have DW := (D2.other (o := 0) hZ (.slice (some ⟨b2, 0, none⟩) m m)).other (o := 1) hZ (.bool true)
    have hbz := r2.ne gz (by decide)
    have hb0 := r2.ne D2.1 (by decide)
    have hb1 := r2.ne D2.2.1 (by decide)
    have hb2 := r2.ne D2.2.2 (by decide)
    have rW := (r2.other (o := 0) hbz (.slice (some ⟨b2, 0, none⟩) m m)).other (o := 1) hbz (.bool true)
    have kW : Kept [] w ((w2.setCell ⟨w1.heap.size, 0, none⟩ (.slice (some ⟨b2, 0, none⟩) m m)).setCell ⟨w1.heap.size, 1, none⟩ (.bool true)) :=
      ((((k0.trans0 k1).trans0 kz).trans0 k2).setCell (by right; simp; omega) _).setCell (by right; simp; omega) _
    go_wp2_with fail
    generalize ((w2.setCell ⟨w1.heap.size, 0, none⟩ (.slice (some ⟨b2, 0, none⟩) m m)).setCell ⟨w1.heap.size, 1, none⟩ (.bool true)) = W at *
    generalize w1.heap.size = Z at *
    clear z0 z1 z2 z3 z4 z5 gz D2 kz k2 r2 hs' D1 r1 k1 l1 l2 l3 n1 n2
    have him2 : (0 : Int) ≤ (i : Int) := by omega
    have him3 : (i : Int) < (m : Int) := by omega
    obtain ⟨a0, a1, a2, a3, a4, a5, a6, a7, a8⟩ := DW.cells
    have g0 : W.cell? ⟨Z, 0, none⟩ = some (.slice (some ⟨b2, 0, none⟩) m m) := (cell_of_heap gW).trans rfl
    have g1 : W.cell? ⟨Z, 1, none⟩ = some (.bool true) := (cell_of_heap gW).trans rfl
    have gf : W.frozen? ⟨Z, 1, none⟩ = false := free_of_heap gW
    obtain ⟨u, hu⟩ := rW.any i him
    have huf := rW.free i
    refine wp_region_held_drew (S := fun w' => w'.cell? ⟨Z, 0, none⟩ = some (.slice (some ⟨b2, 0, none⟩) m m) ∧ w'.cell? ⟨w.heap.size + 1, 1, none⟩ = some (.int .i64 i) ∧ w'.cell? ⟨w.heap.size + 1, 2, none⟩ = some (.int .i64 k) ∧ w'.cell? ⟨w.heap.size, 1, none⟩ = some (.bool t)) (by kernel_rfl) ⟨g0, a3, a4, a1⟩ (fun hS => ?_)
    refine takeD 0 98 (v := ?_) rfl rfl (by kernel_rfl) (by kernel_rfl) (by kernel_rfl) (fun _ _ _ h => h) (Or.inl ⟨by kernel_rfl, ?_⟩) hS ?_
    rotate_left 1
    · (intro w' hw'; (try dsimp only at hw'); go_simp; try with_reducible rfl)
    simp only [List.setIfInBounds_toArray, List.set_cons_zero, List.set_cons_succ]
    refine takeD 1 99 (v := ?_) rfl rfl (by kernel_rfl) (by kernel_rfl) (by kernel_rfl) (fun _ _ _ h => h) (Or.inl ⟨by kernel_rfl, ?_⟩) hS ?_
    rotate_left 1
    · (intro w' hw'; (try dsimp only at hw'); go_simp; try with_reducible rfl)
    simp only [List.setIfInBounds_toArray, List.set_cons_zero, List.set_cons_succ]
    refine takeD 2 100 (v := ?_) rfl rfl (by kernel_rfl) (by kernel_rfl) (by kernel_rfl) (fun _ _ _ h => h) (Or.inl ⟨by kernel_rfl, ?_⟩) hS ?_
    rotate_left 1
    · (intro w' hw'; (try dsimp only at hw'); go_simp; try with_reducible rfl)
    simp only [List.setIfInBounds_toArray, List.set_cons_zero, List.set_cons_succ]
    refine takeD 3 101 (v := ?_) rfl rfl (by kernel_rfl) (by kernel_rfl) (by kernel_rfl) (fun _ _ _ h => h) (Or.inl ⟨by kernel_rfl, ?_⟩) hS ?_
    rotate_left 1
    · (intro w' hw'; (try dsimp only at hw'); go_simp; try with_reducible rfl)
    simp only [List.setIfInBounds_toArray, List.set_cons_zero, List.set_cons_succ]
    refine takeD 4 102 (v := ?_) rfl rfl (by kernel_rfl) (by kernel_rfl) (by kernel_rfl) (fun _ _ _ h => h) (Or.inl ⟨by kernel_rfl, ?_⟩) hS ?_
    rotate_left 1
    · (intro w' hw'; (try dsimp only at hw'); go_simp; try with_reducible rfl)
    simp only [List.setIfInBounds_toArray, List.set_cons_zero, List.set_cons_succ]
    refine takeD 5 103 (v := ?_) rfl rfl (by kernel_rfl) (by kernel_rfl) (by kernel_rfl) (fun _ _ _ h => h) (Or.inl ⟨by kernel_rfl, ?_⟩) hS ?_
    rotate_left 1
    · (intro w' hw'; (try dsimp only at hw'); go_simp; try with_reducible rfl)
    simp only [List.setIfInBounds_toArray, List.set_cons_zero, List.set_cons_succ]
    refine takeD 6 104 (v := ?_) rfl rfl (by kernel_rfl) (by kernel_rfl) (by kernel_rfl) (fun _ _ _ h => h) (Or.inl ⟨by kernel_rfl, ?_⟩) hS ?_
    rotate_left 1
    · (intro w' hw'; (try dsimp only at hw'); go_simp; try with_reducible rfl)
    simp only [List.setIfInBounds_toArray, List.set_cons_zero, List.set_cons_succ]
    refine takeD 7 105 (v := ?_) rfl rfl (by kernel_rfl) (by kernel_rfl) (by kernel_rfl) (fun _ _ _ h => h) (Or.inl ⟨by kernel_rfl, ?_⟩) hS ?_
    rotate_left 1
    · (intro w' hw'; (try dsimp only at hw'); go_simp; try with_reducible rfl)
    simp only [List.setIfInBounds_toArray, List.set_cons_zero, List.set_cons_succ]
    refine takeD 8 106 (v := ?_) rfl rfl (by kernel_rfl) (by kernel_rfl) (by kernel_rfl) (fun _ _ _ h => h) (Or.inl ⟨by kernel_rfl, ?_⟩) hS ?_
    rotate_left 1
    · (intro w' hw'; (try dsimp only at hw'); go_simp; try with_reducible rfl)
    simp only [List.setIfInBounds_toArray, List.set_cons_zero, List.set_cons_succ]
    refine takeD 9 107 (v := ?_) rfl rfl (by kernel_rfl) (by kernel_rfl) (by kernel_rfl) (fun _ _ _ h => h) (Or.inl ⟨by kernel_rfl, ?_⟩) hS ?_
    rotate_left 1
    · (intro w' hw'; (try dsimp only at hw'); go_simp; try with_reducible rfl)
    simp only [List.setIfInBounds_toArray, List.set_cons_zero, List.set_cons_succ]
    refine wpAnyH_ready (rs := [10]) (by kernel_rfl) (by simp) ?_
    refine AllReadyH.cons rfl (fun K hK => ?_) AllReadyH.nil
    go_simp
    refine hK.out _ _ ?_ (fun hS1 => ?_)
    · exact ⟨(World.cell?_setCell_other _ _ _ _ (by simp <;> omega)).trans g0, (World.cell?_setCell_other _ _ _ _ (by simp <;> omega)).trans a3, (World.cell?_setCell_other _ _ _ _ (by simp <;> omega)).trans a4, (World.cell?_setCell_other _ _ _ _ (by simp <;> omega)).trans a1⟩
    clear hK K
    (try simp only [Act.put, List.setIfInBounds_toArray, List.set_cons_zero, List.set_cons_succ])
    have gf1 : (W.setCell ⟨b2, i, none⟩ (.bool true)).frozen? ⟨Z, 1, none⟩ = false := (World.frozen?_setCell _ _ _ _).trans gf
    have g11 : (W.setCell ⟨b2, i, none⟩ (.bool true)).cell? ⟨Z, 1, none⟩ = some (.bool true) := (World.cell?_setCell_other _ _ _ _ (by simp <;> omega)).trans g1
    refine takeD 11 108 (v := ?_) rfl rfl (by kernel_rfl) (by kernel_rfl) (by kernel_rfl) (fun _ _ _ h => h) (Or.inl ⟨by kernel_rfl, ?_⟩) hS1 ?_
    rotate_left 1
    · (intro w' hw'; (try dsimp only at hw'); go_simp; try with_reducible rfl)
    simp only [List.setIfInBounds_toArray, List.set_cons_zero, List.set_cons_succ]
    refine wpAnyH_ready (rs := [12]) (by kernel_rfl) (by simp) ?_
    refine AllReadyH.cons rfl (fun K hK => ?_) AllReadyH.nil
    go_simp
    refine hK.out _ _ ?_ (fun hS2 => ?_)
    · exact ⟨(World.cell?_setCell_other _ _ _ _ (by simp)).trans hS1.1, (World.cell?_setCell_other _ _ _ _ (by simp <;> omega)).trans hS1.2.1, (World.cell?_setCell_other _ _ _ _ (by simp <;> omega)).trans hS1.2.2.1, (World.cell?_setCell_other _ _ _ _ (by simp <;> omega)).trans hS1.2.2.2⟩
    clear hK K
    (try simp only [Act.put, List.setIfInBounds_toArray, List.set_cons_zero, List.set_cons_succ])
    have DV := (DW.others (o := i) hb0 hb1 hb2 (.bool true)).other (o := 1) hZ (.bool t)
    have gV := setCell_heap_same (o := 1) (setCell_heap_other (o := i) gW (Ne.symm hbz) (.bool true)) (.bool t)
    have rV := (rW.set i true him).other (o := 1) hbz (.bool t)
    have kV : Kept [] w (((W.setCell ⟨b2, i, none⟩ (.bool true)).setCell ⟨Z, 1, none⟩ (.bool t)).drew) := ((kW.setCell (by right; exact hb2w) _).setCell (by right; simp; omega) _).drew
    refine wpAnyH_done (by kernel_rfl) ?_ _
    have eV : ((W.setCell ⟨b2, i, none⟩ (.bool true)).setCell ⟨Z, 1, none⟩ (.bool t)).drew.heap = ((W.setCell ⟨b2, i, none⟩ (.bool true)).setCell ⟨Z, 1, none⟩ (.bool t)).heap := rfl
    have DV' : DoB ((W.setCell ⟨b2, i, none⟩ (.bool true)).setCell ⟨Z, 1, none⟩ (.bool t)).drew w.heap.size b c n t 3 i k := DV
    have gV' : ((W.setCell ⟨b2, i, none⟩ (.bool true)).setCell ⟨Z, 1, none⟩ (.bool t)).drew.heap[Z]? = some (.cells #[.slice (some ⟨b2, 0, none⟩) m m, .bool t] 28 (0, 0)) := gV
    have rV' : BRow ((W.setCell ⟨b2, i, none⟩ (.bool true)).setCell ⟨Z, 1, none⟩ (.bool t)).drew b2 m m _ := rV
    clear DV gV rV eV hS hS1 hS2 gf1 g11 a0 a1 a2 a3 a4 a5 a6 a7 a8 g0 g1 gf hu huf
    generalize ((W.setCell ⟨b2, i, none⟩ (.bool true)).setCell ⟨Z, 1, none⟩ (.bool t)).drew = V at *
    obtain ⟨y0, y1, y2, y3, y4, y5⟩ := box2 DV'.2.2 (.slice (some ⟨b2, 0, none⟩) m m) (.bool t)
    obtain ⟨_, _, _, p3, p4, _, _, _, _⟩ := DV'.cells
    obtain ⟨v0, v1, _, _, _, _⟩ := box2 gV' (.slice (some ⟨b2, 0, none⟩) m m) (.bool t)
    go_wp2_with fail
    refine bodyPost_ret (v := .tuple #[.agg #[.slice (some ⟨b2, 0, none⟩) m m, .bool t], .bool true]) (by simp [results, Try.results13, go_sem, y4, y5]) rfl ⟨_, rfl, ?_, (kV.setCell (by right; simp; omega) _).setCell (by right; simp; omega) _⟩
    rw [HM.out]
    refine ⟨b2, m, rfl, ((rV'.other hb2 _).other hb2 _).congr fun j _ => ?_⟩
    by_cases e : j = i
    · simp [e]
    · simp [e]

set_option maxHeartbeats 2000000 in
set_option maxRecDepth 100000 in
theorem dk3f_c (s : Value) (n i : Nat) (f : Nat → Bool) (t : Bool) (w : World) (hs : SpecSet w s n f t) (hn : n ≤ 6000) (hi : i ≤ 2500) (hin : i < n) :
    Calls Try.prog 13 #[s, .agg #[.int .i64 3, .int .i64 i, .int .i64 0]] w fun e w' => ∃ s', e = .returned (.tuple #[s', .bool true]) ∧ SpecSet w' s' (n) (fun j => !(j == i) && f j) t ∧ Kept [] w w' := by
  obtain ⟨b, c, rfl⟩ := hs.shape
  have D0 := DoB.start w b c n t 3 i 0
  have k0 : Kept [] w (((w.alloc (.cells #[.slice (some ⟨b, 0, none⟩) n c, .bool t] 28)).alloc (.cells #[.int .i64 3, .int .i64 i, .int .i64 0] 34)).alloc (.cells #[.slice none 0 0, .bool false] 28)) := (((Kept.refl _ _).alloc _).alloc _).alloc _
  have h1 : ¬ (i : Int) < 0 := by omega
  have h2 : ¬ (2500 : Int) < (i : Int) := by omega
  have h3 : ¬ (6000 : Int) < (n : Int) := by omega
  have h4 : ¬ (n : Int) < (i : Int) + 1 := by omega
  have h6 : ¬ (n : Int) ≤ (i : Int) := by omega
  all_goals
    go_enter Try.func13, Try.ntmps13
    go_wp2_with fail
    refine (from_c n _ rfl 23 #[.agg #[.slice (some ⟨b, 0, none⟩) n c, .bool t]] #[] _ _ (by omega) callFunc_At (at_closure _ n f t _ (hs.kept k0) n)).mono ?_
    rintro e w1 ⟨b1, rfl, r1, n1, k1⟩
    have D1 := D0.kept k1
    have hs' := hs.kept (k0.trans0 k1)
    obtain ⟨a0, a1, a2, a3, a4, a5, a6, a7, a8⟩ := D1.cells
    obtain ⟨l1, l2, l3⟩ := D1.lt
    go_wp2_with fail
    refine (from_c (max n (i + 1)) _ (by omega) 23 #[.agg #[.slice (some ⟨b, 0, none⟩) n c, .bool t]] #[] _ _ (by omega) callFunc_At (at_closure _ n f t _ (hs'.kept ((Kept.refl _ _).alloc _)) _)).mono ?_
    rintro e w2 ⟨b2, rfl, r2, n2, k2⟩
    obtain ⟨m, hm⟩ : ∃ m, max n (i + 1) = m := ⟨_, rfl⟩
    have him : i < m := by omega
    rw [hm] at r2 ⊢
    have HM := Lib.hid hm; clear hm
    have kz : Kept [] w1 (w1.alloc (.cells #[.slice (some ⟨b1, 0, none⟩) n n, .bool t] 28)) := (Kept.refl _ _).alloc _
    have gz := k2.heap (by simp) (heap_alloc_new w1 (.cells #[.slice (some ⟨b1, 0, none⟩) n n, .bool t] 28))
    have D2 := (D1.kept kz).kept k2
    clear a0 a1 a2 a3 a4 a5 a6 a7 a8
    obtain ⟨z0, z1, z2, z3, z4, z5⟩ := box2 gz (.slice (some ⟨b2, 0, none⟩) m m) (.bool true)
    have hZ : w.heap.size + 1 + 1 < w1.heap.size := l3
    have hb2w : w.heap.size ≤ b2 := by have := k1.size; simp at n2 this; omega
    have gW := setCell_heap_same (o := 1) (setCell_heap_same (o := 0) gz (.slice (some ⟨b2, 0, none⟩) m m)) (.bool true)
    have DW := (D2.other (o := 0) hZ (.slice (some ⟨b2, 0, none⟩) m m)).other (o := 1) hZ (.bool true)
    have hbz := r2.ne gz (by decide)
    have hb0 := r2.ne D2.1 (by decide)
    have hb1 := r2.ne D2.2.1 (by decide)
    have hb2 := r2.ne D2.2.2 (by decide)
    have rW := (r2.other (o := 0) hbz (.slice (some ⟨b2, 0, none⟩) m m)).other (o := 1) hbz (.bool true)
    have kW : Kept [] w ((w2.setCell ⟨w1.heap.size, 0, none⟩ (.slice (some ⟨b2, 0, none⟩) m m)).setCell ⟨w1.heap.size, 1, none⟩ (.bool true)) :=
      ((((k0.trans0 k1).trans0 kz).trans0 k2).setCell (by right; simp; omega) _).setCell (by right; simp; omega) _
    go_wp2_with fail
    generalize ((w2.setCell ⟨w1.heap.size, 0, none⟩ (.slice (some ⟨b2, 0, none⟩) m m)).setCell ⟨w1.heap.size, 1, none⟩ (.bool true)) = W at *
    generalize w1.heap.size = Z at *
    clear z0 z1 z2 z3 z4 z5 gz D2 kz k2 r2 hs' D1 r1 k1 l1 l2 l3 n1 n2
    have him2 : (0 : Int) ≤ (i : Int) := by omega
    have him3 : (i : Int) < (m : Int) := by omega
    obtain ⟨a0, a1, a2, a3, a4, a5, a6, a7, a8⟩ := DW.cells
    have g0 : W.cell? ⟨Z, 0, none⟩ = some (.slice (some ⟨b2, 0, none⟩) m m) := (cell_of_heap gW).trans rfl
    have g1 : W.cell? ⟨Z, 1, none⟩ = some (.bool true) := (cell_of_heap gW).trans rfl
    have gf : W.frozen? ⟨Z, 1, none⟩ = false := free_of_heap gW
    obtain ⟨u, hu⟩ := rW.any i him
    have huf := rW.free i
    refine wp_region_held_drew (S := fun w' => w'.cell? ⟨Z, 0, none⟩ = some (.slice (some ⟨b2, 0, none⟩) m m) ∧ w'.cell? ⟨w.heap.size + 1, 1, none⟩ = some (.int .i64 i) ∧ w'.cell? ⟨w.heap.size + 1, 2, none⟩ = some (.int .i64 0) ∧ w'.cell? ⟨w.heap.size, 1, none⟩ = some (.bool t)) (by kernel_rfl) ⟨g0, a3, a4, a1⟩ (fun hS => ?_)
    refine takeD 0 98 (v := ?_) rfl rfl (by kernel_rfl) (by kernel_rfl) (by kernel_rfl) (fun _ _ _ h => h) (Or.inl ⟨by kernel_rfl, ?_⟩) hS ?_
    rotate_left 1
    · (intro w' hw'; (try dsimp only at hw'); go_simp; try with_reducible rfl)
    simp only [List.setIfInBounds_toArray, List.set_cons_zero, List.set_cons_succ]
    refine takeD 1 99 (v := ?_) rfl rfl (by kernel_rfl) (by kernel_rfl) (by kernel_rfl) (fun _ _ _ h => h) (Or.inl ⟨by kernel_rfl, ?_⟩) hS ?_
    rotate_left 1
    · (intro w' hw'; (try dsimp only at hw'); go_simp; try with_reducible rfl)
    simp only [List.setIfInBounds_toArray, List.set_cons_zero, List.set_cons_succ]
    refine takeD 2 100 (v := ?_) rfl rfl (by kernel_rfl) (by kernel_rfl) (by kernel_rfl) (fun _ _ _ h => h) (Or.inl ⟨by kernel_rfl, ?_⟩) hS ?_
    rotate_left 1
    · (intro w' hw'; (try dsimp only at hw'); go_simp; try with_reducible rfl)
    simp only [List.setIfInBounds_toArray, List.set_cons_zero, List.set_cons_succ]
    refine takeD 3 101 (v := ?_) rfl rfl (by kernel_rfl) (by kernel_rfl) (by kernel_rfl) (fun _ _ _ h => h) (Or.inl ⟨by kernel_rfl, ?_⟩) hS ?_
    rotate_left 1
    · (intro w' hw'; (try dsimp only at hw'); go_simp; try with_reducible rfl)
    simp only [List.setIfInBounds_toArray, List.set_cons_zero, List.set_cons_succ]
    refine takeD 4 102 (v := ?_) rfl rfl (by kernel_rfl) (by kernel_rfl) (by kernel_rfl) (fun _ _ _ h => h) (Or.inl ⟨by kernel_rfl, ?_⟩) hS ?_
    rotate_left 1
    · (intro w' hw'; (try dsimp only at hw'); go_simp; try with_reducible rfl)
    simp only [List.setIfInBounds_toArray, List.set_cons_zero, List.set_cons_succ]
    refine takeD 5 103 (v := ?_) rfl rfl (by kernel_rfl) (by kernel_rfl) (by kernel_rfl) (fun _ _ _ h => h) (Or.inl ⟨by kernel_rfl, ?_⟩) hS ?_
    rotate_left 1
    · (intro w' hw'; (try dsimp only at hw'); go_simp; try with_reducible rfl)
    simp only [List.setIfInBounds_toArray, List.set_cons_zero, List.set_cons_succ]
    refine takeD 6 104 (v := ?_) rfl rfl (by kernel_rfl) (by kernel_rfl) (by kernel_rfl) (fun _ _ _ h => h) (Or.inl ⟨by kernel_rfl, ?_⟩) hS ?_
    rotate_left 1
    · (intro w' hw'; (try dsimp only at hw'); go_simp; try with_reducible rfl)
    simp only [List.setIfInBounds_toArray, List.set_cons_zero, List.set_cons_succ]
    refine takeD 7 105 (v := ?_) rfl rfl (by kernel_rfl) (by kernel_rfl) (by kernel_rfl) (fun _ _ _ h => h) (Or.inl ⟨by kernel_rfl, ?_⟩) hS ?_
    rotate_left 1
    · (intro w' hw'; (try dsimp only at hw'); go_simp; try with_reducible rfl)
    simp only [List.setIfInBounds_toArray, List.set_cons_zero, List.set_cons_succ]
    refine takeD 8 106 (v := ?_) rfl rfl (by kernel_rfl) (by kernel_rfl) (by kernel_rfl) (fun _ _ _ h => h) (Or.inl ⟨by kernel_rfl, ?_⟩) hS ?_
    rotate_left 1
    · (intro w' hw'; (try dsimp only at hw'); go_simp; try with_reducible rfl)
    simp only [List.setIfInBounds_toArray, List.set_cons_zero, List.set_cons_succ]
    refine takeD 9 107 (v := ?_) rfl rfl (by kernel_rfl) (by kernel_rfl) (by kernel_rfl) (fun _ _ _ h => h) (Or.inl ⟨by kernel_rfl, ?_⟩) hS ?_
    rotate_left 1
    · (intro w' hw'; (try dsimp only at hw'); go_simp; try with_reducible rfl)
    simp only [List.setIfInBounds_toArray, List.set_cons_zero, List.set_cons_succ]
    refine wpAnyH_ready (rs := [10]) (by kernel_rfl) (by simp) ?_
    refine AllReadyH.cons rfl (fun K hK => ?_) AllReadyH.nil
    go_simp
    refine hK.out _ _ ?_ (fun hS1 => ?_)
    · exact ⟨(World.cell?_setCell_other _ _ _ _ (by simp <;> omega)).trans g0, (World.cell?_setCell_other _ _ _ _ (by simp <;> omega)).trans a3, (World.cell?_setCell_other _ _ _ _ (by simp <;> omega)).trans a4, (World.cell?_setCell_other _ _ _ _ (by simp <;> omega)).trans a1⟩
    clear hK K
    (try simp only [Act.put, List.setIfInBounds_toArray, List.set_cons_zero, List.set_cons_succ])
    have gf1 : (W.setCell ⟨b2, i, none⟩ (.bool false)).frozen? ⟨Z, 1, none⟩ = false := (World.frozen?_setCell _ _ _ _).trans gf
    have g11 : (W.setCell ⟨b2, i, none⟩ (.bool false)).cell? ⟨Z, 1, none⟩ = some (.bool true) := (World.cell?_setCell_other _ _ _ _ (by simp <;> omega)).trans g1
    refine takeD 11 108 (v := ?_) rfl rfl (by kernel_rfl) (by kernel_rfl) (by kernel_rfl) (fun _ _ _ h => h) (Or.inl ⟨by kernel_rfl, ?_⟩) hS1 ?_
    rotate_left 1
    · (intro w' hw'; (try dsimp only at hw'); go_simp; try with_reducible rfl)
    simp only [List.setIfInBounds_toArray, List.set_cons_zero, List.set_cons_succ]
    refine wpAnyH_ready (rs := [12]) (by kernel_rfl) (by simp) ?_
    refine AllReadyH.cons rfl (fun K hK => ?_) AllReadyH.nil
    go_simp
    refine hK.out _ _ ?_ (fun hS2 => ?_)
    · exact ⟨(World.cell?_setCell_other _ _ _ _ (by simp)).trans hS1.1, (World.cell?_setCell_other _ _ _ _ (by simp <;> omega)).trans hS1.2.1, (World.cell?_setCell_other _ _ _ _ (by simp <;> omega)).trans hS1.2.2.1, (World.cell?_setCell_other _ _ _ _ (by simp <;> omega)).trans hS1.2.2.2⟩
    clear hK K
    (try simp only [Act.put, List.setIfInBounds_toArray, List.set_cons_zero, List.set_cons_succ])
    have DV := (DW.others (o := i) hb0 hb1 hb2 (.bool false)).other (o := 1) hZ (.bool t)
    have gV := setCell_heap_same (o := 1) (setCell_heap_other (o := i) gW (Ne.symm hbz) (.bool false)) (.bool t)
    have rV := (rW.set i false him).other (o := 1) hbz (.bool t)
    have kV : Kept [] w (((W.setCell ⟨b2, i, none⟩ (.bool false)).setCell ⟨Z, 1, none⟩ (.bool t)).drew) := ((kW.setCell (by right; exact hb2w) _).setCell (by right; simp; omega) _).drew
    refine wpAnyH_done (by kernel_rfl) ?_ _
    have eV : ((W.setCell ⟨b2, i, none⟩ (.bool false)).setCell ⟨Z, 1, none⟩ (.bool t)).drew.heap = ((W.setCell ⟨b2, i, none⟩ (.bool false)).setCell ⟨Z, 1, none⟩ (.bool t)).heap := rfl
    have DV' : DoB ((W.setCell ⟨b2, i, none⟩ (.bool false)).setCell ⟨Z, 1, none⟩ (.bool t)).drew w.heap.size b c n t 3 i 0 := DV
    have gV' : ((W.setCell ⟨b2, i, none⟩ (.bool false)).setCell ⟨Z, 1, none⟩ (.bool t)).drew.heap[Z]? = some (.cells #[.slice (some ⟨b2, 0, none⟩) m m, .bool t] 28 (0, 0)) := gV
    have rV' : BRow ((W.setCell ⟨b2, i, none⟩ (.bool false)).setCell ⟨Z, 1, none⟩ (.bool t)).drew b2 m m _ := rV
    clear DV gV rV eV hS hS1 hS2 gf1 g11 a0 a1 a2 a3 a4 a5 a6 a7 a8 g0 g1 gf hu huf
    generalize ((W.setCell ⟨b2, i, none⟩ (.bool false)).setCell ⟨Z, 1, none⟩ (.bool t)).drew = V at *
    obtain ⟨y0, y1, y2, y3, y4, y5⟩ := box2 DV'.2.2 (.slice (some ⟨b2, 0, none⟩) m m) (.bool t)
    obtain ⟨_, _, _, p3, p4, _, _, _, _⟩ := DV'.cells
    obtain ⟨v0, v1, _, _, _, _⟩ := box2 gV' (.slice (some ⟨b2, 0, none⟩) m m) (.bool t)
    go_wp2_with fail
    refine bodyPost_ret (v := .tuple #[.agg #[.slice (some ⟨b2, 0, none⟩) m m, .bool t], .bool true]) (by simp [results, Try.results13, go_sem, y4, y5]) rfl ⟨_, rfl, ?_, (kV.setCell (by right; simp; omega) _).setCell (by right; simp; omega) _⟩
    rw [show n = m by have := HM.out; omega]
    refine ⟨b2, m, rfl, ((rV'.other hb2 _).other hb2 _).congr fun j _ => ?_⟩
    by_cases e : j = i
    · simp [e]
    · have e2 : j < n := by have := HM.out; omega
      simp [e, e2]

set_option maxHeartbeats 2000000 in
set_option maxRecDepth 100000 in
theorem dk3u_c (s : Value) (n i : Nat) (f : Nat → Bool) (t : Bool) (w : World) (hs : SpecSet w s n f t) (hn : n ≤ 6000) (hi : i ≤ 2500) (hin : n ≤ i) :
    Calls Try.prog 13 #[s, .agg #[.int .i64 3, .int .i64 i, .int .i64 0]] w fun e w' => ∃ s', e = .returned (.tuple #[s', .bool true]) ∧ SpecSet w' s' (lst (fun j => if j = i then false else (decide (j < n) && f j)) (max n (i + 1))) (fun j => if j = i then false else (decide (j < n) && f j)) false ∧ Kept [] w w' := by
  obtain ⟨b, c, rfl⟩ := hs.shape
  have D0 := DoB.start w b c n t 3 i 0
  have k0 : Kept [] w (((w.alloc (.cells #[.slice (some ⟨b, 0, none⟩) n c, .bool t] 28)).alloc (.cells #[.int .i64 3, .int .i64 i, .int .i64 0] 34)).alloc (.cells #[.slice none 0 0, .bool false] 28)) := (((Kept.refl _ _).alloc _).alloc _).alloc _
  have h1 : ¬ (i : Int) < 0 := by omega
  have h2 : ¬ (2500 : Int) < (i : Int) := by omega
  have h3 : ¬ (6000 : Int) < (n : Int) := by omega
  have h4 : (n : Int) < (i : Int) + 1 := by omega
  have h6 : (n : Int) ≤ (i : Int) := by omega
  all_goals
    go_enter Try.func13, Try.ntmps13
    go_wp2_with fail
    refine (from_c n _ rfl 23 #[.agg #[.slice (some ⟨b, 0, none⟩) n c, .bool t]] #[] _ _ (by omega) callFunc_At (at_closure _ n f t _ (hs.kept k0) n)).mono ?_
    rintro e w1 ⟨b1, rfl, r1, n1, k1⟩
    have D1 := D0.kept k1
    have hs' := hs.kept (k0.trans0 k1)
    obtain ⟨a0, a1, a2, a3, a4, a5, a6, a7, a8⟩ := D1.cells
    obtain ⟨l1, l2, l3⟩ := D1.lt
    go_wp2_with fail
    refine (from_c (max n (i + 1)) _ (by omega) 23 #[.agg #[.slice (some ⟨b, 0, none⟩) n c, .bool t]] #[] _ _ (by omega) callFunc_At (at_closure _ n f t _ (hs'.kept ((Kept.refl _ _).alloc _)) _)).mono ?_
    rintro e w2 ⟨b2, rfl, r2, n2, k2⟩
    obtain ⟨m, hm⟩ : ∃ m, max n (i + 1) = m := ⟨_, rfl⟩
    have him : i < m := by omega
    rw [hm] at r2 ⊢
    have HM := Lib.hid hm; clear hm
    have kz : Kept [] w1 (w1.alloc (.cells #[.slice (some ⟨b1, 0, none⟩) n n, .bool t] 28)) := (Kept.refl _ _).alloc _
    have gz := k2.heap (by simp) (heap_alloc_new w1 (.cells #[.slice (some ⟨b1, 0, none⟩) n n, .bool t] 28))
    have D2 := (D1.kept kz).kept k2
    clear a0 a1 a2 a3 a4 a5 a6 a7 a8
    obtain ⟨z0, z1, z2, z3, z4, z5⟩ := box2 gz (.slice (some ⟨b2, 0, none⟩) m m) (.bool true)
    have hZ : w.heap.size + 1 + 1 < w1.heap.size := l3
    have hb2w : w.heap.size ≤ b2 := by have := k1.size; simp at n2 this; omega
    have gW := setCell_heap_same (o := 1) (setCell_heap_same (o := 0) gz (.slice (some ⟨b2, 0, none⟩) m m)) (.bool true)
    have DW := (D2.other (o := 0) hZ (.slice (some ⟨b2, 0, none⟩) m m)).other (o := 1) hZ (.bool true)
    have hbz := r2.ne gz (by decide)
    have hb0 := r2.ne D2.1 (by decide)
    have hb1 := r2.ne D2.2.1 (by decide)
    have hb2 := r2.ne D2.2.2 (by decide)
    have rW := (r2.other (o := 0) hbz (.slice (some ⟨b2, 0, none⟩) m m)).other (o := 1) hbz (.bool true)
    have kW : Kept [] w ((w2.setCell ⟨w1.heap.size, 0, none⟩ (.slice (some ⟨b2, 0, none⟩) m m)).setCell ⟨w1.heap.size, 1, none⟩ (.bool true)) :=
      ((((k0.trans0 k1).trans0 kz).trans0 k2).setCell (by right; simp; omega) _).setCell (by right; simp; omega) _
    go_wp2_with fail
    generalize ((w2.setCell ⟨w1.heap.size, 0, none⟩ (.slice (some ⟨b2, 0, none⟩) m m)).setCell ⟨w1.heap.size, 1, none⟩ (.bool true)) = W at *
    generalize w1.heap.size = Z at *
    clear z0 z1 z2 z3 z4 z5 gz D2 kz k2 r2 hs' D1 r1 k1 l1 l2 l3 n1 n2
    have him2 : (0 : Int) ≤ (i : Int) := by omega
    have him3 : (i : Int) < (m : Int) := by omega
    obtain ⟨a0, a1, a2, a3, a4, a5, a6, a7, a8⟩ := DW.cells
    have g0 : W.cell? ⟨Z, 0, none⟩ = some (.slice (some ⟨b2, 0, none⟩) m m) := (cell_of_heap gW).trans rfl
    have g1 : W.cell? ⟨Z, 1, none⟩ = some (.bool true) := (cell_of_heap gW).trans rfl
    have gf : W.frozen? ⟨Z, 1, none⟩ = false := free_of_heap gW
    obtain ⟨u, hu⟩ := rW.any i him
    have huf := rW.free i
    refine wp_region_held_drew (S := fun w' => w'.cell? ⟨Z, 0, none⟩ = some (.slice (some ⟨b2, 0, none⟩) m m) ∧ w'.cell? ⟨w.heap.size + 1, 1, none⟩ = some (.int .i64 i) ∧ w'.cell? ⟨w.heap.size + 1, 2, none⟩ = some (.int .i64 0) ∧ w'.cell? ⟨w.heap.size, 1, none⟩ = some (.bool t)) (by kernel_rfl) ⟨g0, a3, a4, a1⟩ (fun hS => ?_)
    refine takeD 0 98 (v := ?_) rfl rfl (by kernel_rfl) (by kernel_rfl) (by kernel_rfl) (fun _ _ _ h => h) (Or.inl ⟨by kernel_rfl, ?_⟩) hS ?_
    rotate_left 1
    · (intro w' hw'; (try dsimp only at hw'); go_simp; try with_reducible rfl)
    simp only [List.setIfInBounds_toArray, List.set_cons_zero, List.set_cons_succ]
    refine takeD 1 99 (v := ?_) rfl rfl (by kernel_rfl) (by kernel_rfl) (by kernel_rfl) (fun _ _ _ h => h) (Or.inl ⟨by kernel_rfl, ?_⟩) hS ?_
    rotate_left 1
    · (intro w' hw'; (try dsimp only at hw'); go_simp; try with_reducible rfl)
    simp only [List.setIfInBounds_toArray, List.set_cons_zero, List.set_cons_succ]
    refine takeD 2 100 (v := ?_) rfl rfl (by kernel_rfl) (by kernel_rfl) (by kernel_rfl) (fun _ _ _ h => h) (Or.inl ⟨by kernel_rfl, ?_⟩) hS ?_
    rotate_left 1
    · (intro w' hw'; (try dsimp only at hw'); go_simp; try with_reducible rfl)
    simp only [List.setIfInBounds_toArray, List.set_cons_zero, List.set_cons_succ]
    refine takeD 3 101 (v := ?_) rfl rfl (by kernel_rfl) (by kernel_rfl) (by kernel_rfl) (fun _ _ _ h => h) (Or.inl ⟨by kernel_rfl, ?_⟩) hS ?_
    rotate_left 1
    · (intro w' hw'; (try dsimp only at hw'); go_simp; try with_reducible rfl)
    simp only [List.setIfInBounds_toArray, List.set_cons_zero, List.set_cons_succ]
    refine takeD 4 102 (v := ?_) rfl rfl (by kernel_rfl) (by kernel_rfl) (by kernel_rfl) (fun _ _ _ h => h) (Or.inl ⟨by kernel_rfl, ?_⟩) hS ?_
    rotate_left 1
    · (intro w' hw'; (try dsimp only at hw'); go_simp; try with_reducible rfl)
    simp only [List.setIfInBounds_toArray, List.set_cons_zero, List.set_cons_succ]
    refine takeD 5 103 (v := ?_) rfl rfl (by kernel_rfl) (by kernel_rfl) (by kernel_rfl) (fun _ _ _ h => h) (Or.inl ⟨by kernel_rfl, ?_⟩) hS ?_
    rotate_left 1
    · (intro w' hw'; (try dsimp only at hw'); go_simp; try with_reducible rfl)
    simp only [List.setIfInBounds_toArray, List.set_cons_zero, List.set_cons_succ]
    refine takeD 6 104 (v := ?_) rfl rfl (by kernel_rfl) (by kernel_rfl) (by kernel_rfl) (fun _ _ _ h => h) (Or.inl ⟨by kernel_rfl, ?_⟩) hS ?_
    rotate_left 1
    · (intro w' hw'; (try dsimp only at hw'); go_simp; try with_reducible rfl)
    simp only [List.setIfInBounds_toArray, List.set_cons_zero, List.set_cons_succ]
    refine takeD 7 105 (v := ?_) rfl rfl (by kernel_rfl) (by kernel_rfl) (by kernel_rfl) (fun _ _ _ h => h) (Or.inl ⟨by kernel_rfl, ?_⟩) hS ?_
    rotate_left 1
    · (intro w' hw'; (try dsimp only at hw'); go_simp; try with_reducible rfl)
    simp only [List.setIfInBounds_toArray, List.set_cons_zero, List.set_cons_succ]
    refine takeD 8 106 (v := ?_) rfl rfl (by kernel_rfl) (by kernel_rfl) (by kernel_rfl) (fun _ _ _ h => h) (Or.inl ⟨by kernel_rfl, ?_⟩) hS ?_
    rotate_left 1
    · (intro w' hw'; (try dsimp only at hw'); go_simp; try with_reducible rfl)
    simp only [List.setIfInBounds_toArray, List.set_cons_zero, List.set_cons_succ]
    refine takeD 9 107 (v := ?_) rfl rfl (by kernel_rfl) (by kernel_rfl) (by kernel_rfl) (fun _ _ _ h => h) (Or.inl ⟨by kernel_rfl, ?_⟩) hS ?_
    rotate_left 1
    · (intro w' hw'; (try dsimp only at hw'); go_simp; try with_reducible rfl)
    simp only [List.setIfInBounds_toArray, List.set_cons_zero, List.set_cons_succ]
    refine wpAnyH_ready (rs := [10]) (by kernel_rfl) (by simp) ?_
    refine AllReadyH.cons rfl (fun K hK => ?_) AllReadyH.nil
    go_simp
    refine hK.out _ _ ?_ (fun hS1 => ?_)
    · exact ⟨(World.cell?_setCell_other _ _ _ _ (by simp <;> omega)).trans g0, (World.cell?_setCell_other _ _ _ _ (by simp <;> omega)).trans a3, (World.cell?_setCell_other _ _ _ _ (by simp <;> omega)).trans a4, (World.cell?_setCell_other _ _ _ _ (by simp <;> omega)).trans a1⟩
    clear hK K
    (try simp only [Act.put, List.setIfInBounds_toArray, List.set_cons_zero, List.set_cons_succ])
    have gf1 : (W.setCell ⟨b2, i, none⟩ (.bool false)).frozen? ⟨Z, 1, none⟩ = false := (World.frozen?_setCell _ _ _ _).trans gf
    have g11 : (W.setCell ⟨b2, i, none⟩ (.bool false)).cell? ⟨Z, 1, none⟩ = some (.bool true) := (World.cell?_setCell_other _ _ _ _ (by simp <;> omega)).trans g1
    refine takeD 11 108 (v := ?_) rfl rfl (by kernel_rfl) (by kernel_rfl) (by kernel_rfl) (fun _ _ _ h => h) (Or.inl ⟨by kernel_rfl, ?_⟩) hS1 ?_
    rotate_left 1
    · (intro w' hw'; (try dsimp only at hw'); go_simp; try with_reducible rfl)
    simp only [List.setIfInBounds_toArray, List.set_cons_zero, List.set_cons_succ]
    refine wpAnyH_ready (rs := [12]) (by kernel_rfl) (by simp) ?_
    refine AllReadyH.cons rfl (fun K hK => ?_) AllReadyH.nil
    go_simp
    refine hK.out _ _ ?_ (fun hS2 => ?_)
    · exact ⟨(World.cell?_setCell_other _ _ _ _ (by simp)).trans hS1.1, (World.cell?_setCell_other _ _ _ _ (by simp <;> omega)).trans hS1.2.1, (World.cell?_setCell_other _ _ _ _ (by simp <;> omega)).trans hS1.2.2.1, (World.cell?_setCell_other _ _ _ _ (by simp <;> omega)).trans hS1.2.2.2⟩
    clear hK K
    (try simp only [Act.put, List.setIfInBounds_toArray, List.set_cons_zero, List.set_cons_succ])
    have DV := (DW.others (o := i) hb0 hb1 hb2 (.bool false)).other (o := 1) hZ (.bool t)
    have gV := setCell_heap_same (o := 1) (setCell_heap_other (o := i) gW (Ne.symm hbz) (.bool false)) (.bool t)
    have rV := (rW.set i false him).other (o := 1) hbz (.bool t)
    have kV : Kept [] w (((W.setCell ⟨b2, i, none⟩ (.bool false)).setCell ⟨Z, 1, none⟩ (.bool t)).drew) := ((kW.setCell (by right; exact hb2w) _).setCell (by right; simp; omega) _).drew
    refine wpAnyH_done (by kernel_rfl) ?_ _
    have eV : ((W.setCell ⟨b2, i, none⟩ (.bool false)).setCell ⟨Z, 1, none⟩ (.bool t)).drew.heap = ((W.setCell ⟨b2, i, none⟩ (.bool false)).setCell ⟨Z, 1, none⟩ (.bool t)).heap := rfl
    have DV' : DoB ((W.setCell ⟨b2, i, none⟩ (.bool false)).setCell ⟨Z, 1, none⟩ (.bool t)).drew w.heap.size b c n t 3 i 0 := DV
    have gV' : ((W.setCell ⟨b2, i, none⟩ (.bool false)).setCell ⟨Z, 1, none⟩ (.bool t)).drew.heap[Z]? = some (.cells #[.slice (some ⟨b2, 0, none⟩) m m, .bool t] 28 (0, 0)) := gV
    have rV' : BRow ((W.setCell ⟨b2, i, none⟩ (.bool false)).setCell ⟨Z, 1, none⟩ (.bool t)).drew b2 m m _ := rV
    clear DV gV rV eV hS hS1 hS2 gf1 g11 a0 a1 a2 a3 a4 a5 a6 a7 a8 g0 g1 gf hu huf
    generalize ((W.setCell ⟨b2, i, none⟩ (.bool false)).setCell ⟨Z, 1, none⟩ (.bool t)).drew = V at *
    obtain ⟨_, _, _, p3, p4, _, _, _, _⟩ := DV'.cells
    obtain ⟨v0, v1, _, _, _, _⟩ := box2 gV' (.bool true) (.bool true)
    have hm9 : m ≤ 9000 := by have := HM.out; omega
    go_wp2_with fail
    refine (least_c _ (m) (fun j => if j = i then false else (decide (j < n) && f j)) t _ ⟨b2, m, rfl, rV'⟩ (by omega)).mono ?_
    rintro e w9 ⟨s9, rfl, ⟨b9, c9, rfl, r9⟩, k9⟩
    have hq := lst_le (fun j => if j = i then false else (decide (j < n) && f j)) (m)
    obtain ⟨q9, hql⟩ : ∃ q9, lst (fun j => if j = i then false else (decide (j < n) && f j)) (m) = q9 := ⟨_, rfl⟩
    rw [hql] at r9 hq ⊢
    have hD9 := k9.heap (by simp) DV'.2.2
    have hb9 := r9.ne hD9 (by decide)
    have kV := (kV).trans0 k9
    have HQ := Lib.hid hql
    clear hql
    obtain ⟨y0, y1, y2, y3, y4, y5⟩ := box2 hD9 (.slice (some ⟨b9, 0, none⟩) q9 c9) (.bool false)
    go_wp2_with fail
    refine bodyPost_ret (v := .tuple #[.agg #[.slice (some ⟨b9, 0, none⟩) q9 c9, .bool false], .bool true]) (by simp [results, Try.results13, go_sem, y4, y5]) rfl ⟨_, rfl, ?_, (kV.setCell (by right; simp; omega) _).setCell (by right; simp; omega) _⟩
    rw [HM.out, HQ.out]
    exact ⟨b9, c9, rfl, (r9.other hb9 _).other hb9 _⟩

end Go.Proofs.Ytiaghdnhapiioaa

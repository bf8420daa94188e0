/-
  The reference's steps 0, 1, 2, 10, 11, for every number k of the step.
-/
import Derived.Test.YtiaghdnhapiioaaLeast
namespace Go.Proofs.Ytiaghdnhapiioaa
set_option linter.unusedSimpArgs false
set_option linter.unusedVariables false
open Go.RowKit

set_option maxHeartbeats 2000000 in
set_option maxRecDepth 100000 in
theorem dk0_c (s : Value) (n i : Nat) (f : Nat → Bool) (t : Bool) (w : World) (hs : SpecSet w s n f t) (hn : n ≤ 6000) (hi : i ≤ 2500) (k : Nat) (hk : k ≤ 2500) :
    Calls Try.prog 13 #[s, .agg #[.int .i64 0, .int .i64 i, .int .i64 k]] w fun e w' => ∃ s', e = .returned (.tuple #[s', .bool true]) ∧ SpecSet w' s' (max n (i + 1)) (fun j => (j == i) || (decide (j < n) && f j)) t ∧ Kept [] w w' := by
  obtain ⟨b, c, rfl⟩ := hs.shape
  have D0 := DoB.start w b c n t 0 i k
  have hB1 : ¬ (k : Int) < 0 := by omega
  have hB2 : ¬ (2500 : Int) < (k : Int) := by omega
  have k0 : Kept [] w (((w.alloc (.cells #[.slice (some ⟨b, 0, none⟩) n c, .bool t] 28)).alloc (.cells #[.int .i64 0, .int .i64 i, .int .i64 k] 34)).alloc (.cells #[.slice none 0 0, .bool false] 28)) := (((Kept.refl _ _).alloc _).alloc _).alloc _
  have h1 : ¬ (i : Int) < 0 := by omega
  have h2 : ¬ (2500 : Int) < (i : Int) := by omega
  have h3 : ¬ (6000 : Int) < (n : Int) := by omega
  by_cases h4 : (n : Int) < (i : Int) + 1
  all_goals
    go_enter Try.func13, Try.ntmps13
    go_wp2_with fail
    refine (from_c n _ rfl 23 #[.agg #[.slice (some ⟨b, 0, none⟩) n c, .bool t]] #[] _ _ (by omega) callFunc_At (at_closure _ n f t _ (hs.kept k0) n)).mono ?_
    rintro e w1 ⟨b1, rfl, r1, n1, k1⟩
    have D1 := D0.kept k1
    have hs' := hs.kept (k0.trans0 k1)
    obtain ⟨a0, a1, a2, a3, a4, a5, a6, a7, a8⟩ := D1.cells
    obtain ⟨l1, l2, l3⟩ := D1.lt
    go_wp2_with fail
    refine (from_c (max n (i + 1)) _ (by omega) 23 #[.agg #[.slice (some ⟨b, 0, none⟩) n c, .bool t]] #[] _ _ (by omega) callFunc_At (at_closure _ n f t _ (hs'.kept ((Kept.refl _ _).alloc _)) _)).mono ?_
    rintro e w2 ⟨b2, rfl, r2, n2, k2⟩
    obtain ⟨m, hm⟩ : ∃ m, max n (i + 1) = m := ⟨_, rfl⟩
    have him : i < m := by omega
    rw [hm] at r2 ⊢
    have HM := Lib.hid hm; clear hm
    have kz : Kept [] w1 (w1.alloc (.cells #[.slice (some ⟨b1, 0, none⟩) n n, .bool t] 28)) := (Kept.refl _ _).alloc _
    have gz := k2.heap (by simp) (heap_alloc_new w1 (.cells #[.slice (some ⟨b1, 0, none⟩) n n, .bool t] 28))
    have D2 := (D1.kept kz).kept k2
    clear a0 a1 a2 a3 a4 a5 a6 a7 a8
    obtain ⟨z0, z1, z2, z3, z4, z5⟩ := box2 gz (.slice (some ⟨b2, 0, none⟩) m m) (.bool true)
    have hZ : w.heap.size + 1 + 1 < w1.heap.size := l3
    have hb2w : w.heap.size ≤ b2 := by have := k1.size; simp at n2 this; omega
    have gW := setCell_heap_same (o := 1) (setCell_heap_same (o := 0) gz (.slice (some ⟨b2, 0, none⟩) m m)) (.bool true)
    have DW := (D2.other (o := 0) hZ (.slice (some ⟨b2, 0, none⟩) m m)).other (o := 1) hZ (.bool true)
    have hbz := r2.ne gz (by decide)
    have hb0 := r2.ne D2.1 (by decide)
    have hb1 := r2.ne D2.2.1 (by decide)
    have hb2 := r2.ne D2.2.2 (by decide)
    have rW := (r2.other (o := 0) hbz (.slice (some ⟨b2, 0, none⟩) m m)).other (o := 1) hbz (.bool true)
    have kW : Kept [] w ((w2.setCell ⟨w1.heap.size, 0, none⟩ (.slice (some ⟨b2, 0, none⟩) m m)).setCell ⟨w1.heap.size, 1, none⟩ (.bool true)) :=
      ((((k0.trans0 k1).trans0 kz).trans0 k2).setCell (by right; simp; omega) _).setCell (by right; simp; omega) _
    go_wp2_with fail
    generalize ((w2.setCell ⟨w1.heap.size, 0, none⟩ (.slice (some ⟨b2, 0, none⟩) m m)).setCell ⟨w1.heap.size, 1, none⟩ (.bool true)) = W at *
    generalize w1.heap.size = Z at *
    clear z0 z1 z2 z3 z4 z5 gz D2 kz k2 r2 hs' D1 r1 k1 l1 l2 l3 n1 n2
    have him2 : (0 : Int) ≤ (i : Int) := by omega
    have him3 : (i : Int) < (m : Int) := by omega
    obtain ⟨a0, a1, a2, a3, a4, a5, a6, a7, a8⟩ := DW.cells
    have g0 : W.cell? ⟨Z, 0, none⟩ = some (.slice (some ⟨b2, 0, none⟩) m m) := (cell_of_heap gW).trans rfl
    have g1 : W.cell? ⟨Z, 1, none⟩ = some (.bool true) := (cell_of_heap gW).trans rfl
    have gf : W.frozen? ⟨Z, 1, none⟩ = false := free_of_heap gW
    obtain ⟨u, hu⟩ := rW.any i him
    have huf := rW.free i
    refine wp_region_held_drew (S := fun w' => w'.cell? ⟨Z, 0, none⟩ = some (.slice (some ⟨b2, 0, none⟩) m m) ∧ w'.cell? ⟨w.heap.size + 1, 1, none⟩ = some (.int .i64 i) ∧ w'.cell? ⟨w.heap.size, 1, none⟩ = some (.bool t)) (by kernel_rfl) ⟨g0, a3, a1⟩ (fun hS => ?_)
    refine takeD 0 68 (v := ?_) rfl rfl (by kernel_rfl) (by kernel_rfl) (by kernel_rfl) (fun _ _ _ h => h) (Or.inl ⟨by kernel_rfl, ?_⟩) hS ?_
    rotate_left 1
    · (intro w' hw'; (try dsimp only at hw'); go_simp; try with_reducible rfl)
    simp only [List.setIfInBounds_toArray, List.set_cons_zero, List.set_cons_succ]
    refine takeD 1 69 (v := ?_) rfl rfl (by kernel_rfl) (by kernel_rfl) (by kernel_rfl) (fun _ _ _ h => h) (Or.inl ⟨by kernel_rfl, ?_⟩) hS ?_
    rotate_left 1
    · (intro w' hw'; (try dsimp only at hw'); go_simp; try with_reducible rfl)
    simp only [List.setIfInBounds_toArray, List.set_cons_zero, List.set_cons_succ]
    refine takeD 2 70 (v := ?_) rfl rfl (by kernel_rfl) (by kernel_rfl) (by kernel_rfl) (fun _ _ _ h => h) (Or.inl ⟨by kernel_rfl, ?_⟩) hS ?_
    rotate_left 1
    · (intro w' hw'; (try dsimp only at hw'); go_simp; try with_reducible rfl)
    simp only [List.setIfInBounds_toArray, List.set_cons_zero, List.set_cons_succ]
    refine takeD 3 71 (v := ?_) rfl rfl (by kernel_rfl) (by kernel_rfl) (by kernel_rfl) (fun _ _ _ h => h) (Or.inl ⟨by kernel_rfl, ?_⟩) hS ?_
    rotate_left 1
    · (intro w' hw'; (try dsimp only at hw'); go_simp; try with_reducible rfl)
    simp only [List.setIfInBounds_toArray, List.set_cons_zero, List.set_cons_succ]
    refine takeD 4 72 (v := ?_) rfl rfl (by kernel_rfl) (by kernel_rfl) (by kernel_rfl) (fun _ _ _ h => h) (Or.inl ⟨by kernel_rfl, ?_⟩) hS ?_
    rotate_left 1
    · (intro w' hw'; (try dsimp only at hw'); go_simp; try with_reducible rfl)
    simp only [List.setIfInBounds_toArray, List.set_cons_zero, List.set_cons_succ]
    refine takeD 5 73 (v := ?_) rfl rfl (by kernel_rfl) (by kernel_rfl) (by kernel_rfl) (fun _ _ _ h => h) (Or.inl ⟨by kernel_rfl, ?_⟩) hS ?_
    rotate_left 1
    · (intro w' hw'; (try dsimp only at hw'); go_simp; try with_reducible rfl)
    simp only [List.setIfInBounds_toArray, List.set_cons_zero, List.set_cons_succ]
    refine takeD 6 74 (v := ?_) rfl rfl (by kernel_rfl) (by kernel_rfl) (by kernel_rfl) (fun _ _ _ h => h) (Or.inl ⟨by kernel_rfl, ?_⟩) hS ?_
    rotate_left 1
    · (intro w' hw'; (try dsimp only at hw'); go_simp; try with_reducible rfl)
    simp only [List.setIfInBounds_toArray, List.set_cons_zero, List.set_cons_succ]
    refine takeD 7 75 (v := ?_) rfl rfl (by kernel_rfl) (by kernel_rfl) (by kernel_rfl) (fun _ _ _ h => h) (Or.inl ⟨by kernel_rfl, ?_⟩) hS ?_
    rotate_left 1
    · (intro w' hw'; (try dsimp only at hw'); go_simp; try with_reducible rfl)
    simp only [List.setIfInBounds_toArray, List.set_cons_zero, List.set_cons_succ]
    refine wpAnyH_ready (rs := [8]) (by kernel_rfl) (by simp) ?_
    refine AllReadyH.cons rfl (fun K hK => ?_) AllReadyH.nil
    go_simp
    refine hK.out _ _ ?_ (fun hS1 => ?_)
    · exact ⟨(World.cell?_setCell_other _ _ _ _ (by simp <;> omega)).trans g0, (World.cell?_setCell_other _ _ _ _ (by simp <;> omega)).trans a3, (World.cell?_setCell_other _ _ _ _ (by simp <;> omega)).trans a1⟩
    clear hK K
    (try simp only [Act.put, List.setIfInBounds_toArray, List.set_cons_zero, List.set_cons_succ])
    have gf1 : (W.setCell ⟨b2, i, none⟩ (.bool true)).frozen? ⟨Z, 1, none⟩ = false := (World.frozen?_setCell _ _ _ _).trans gf
    have g11 : (W.setCell ⟨b2, i, none⟩ (.bool true)).cell? ⟨Z, 1, none⟩ = some (.bool true) := (World.cell?_setCell_other _ _ _ _ (by simp <;> omega)).trans g1
    refine takeD 9 76 (v := ?_) rfl rfl (by kernel_rfl) (by kernel_rfl) (by kernel_rfl) (fun _ _ _ h => h) (Or.inl ⟨by kernel_rfl, ?_⟩) hS1 ?_
    rotate_left 1
    · (intro w' hw'; (try dsimp only at hw'); go_simp; try with_reducible rfl)
    simp only [List.setIfInBounds_toArray, List.set_cons_zero, List.set_cons_succ]
    refine wpAnyH_ready (rs := [10]) (by kernel_rfl) (by simp) ?_
    refine AllReadyH.cons rfl (fun K hK => ?_) AllReadyH.nil
    go_simp
    refine hK.out _ _ ?_ (fun hS2 => ?_)
    · exact ⟨(World.cell?_setCell_other _ _ _ _ (by simp)).trans hS1.1, (World.cell?_setCell_other _ _ _ _ (by simp <;> omega)).trans hS1.2.1, (World.cell?_setCell_other _ _ _ _ (by simp <;> omega)).trans hS1.2.2⟩
    clear hK K
    (try simp only [Act.put, List.setIfInBounds_toArray, List.set_cons_zero, List.set_cons_succ])
    have DV := (DW.others (o := i) hb0 hb1 hb2 (.bool true)).other (o := 1) hZ (.bool t)
    have gV := setCell_heap_same (o := 1) (setCell_heap_other (o := i) gW (Ne.symm hbz) (.bool true)) (.bool t)
    have rV := (rW.set i true him).other (o := 1) hbz (.bool t)
    have kV : Kept [] w (((W.setCell ⟨b2, i, none⟩ (.bool true)).setCell ⟨Z, 1, none⟩ (.bool t)).drew) := ((kW.setCell (by right; exact hb2w) _).setCell (by right; simp; omega) _).drew
    refine wpAnyH_done (by kernel_rfl) ?_ _
    have eV : ((W.setCell ⟨b2, i, none⟩ (.bool true)).setCell ⟨Z, 1, none⟩ (.bool t)).drew.heap = ((W.setCell ⟨b2, i, none⟩ (.bool true)).setCell ⟨Z, 1, none⟩ (.bool t)).heap := rfl
    have DV' : DoB ((W.setCell ⟨b2, i, none⟩ (.bool true)).setCell ⟨Z, 1, none⟩ (.bool t)).drew w.heap.size b c n t 0 i k := DV
    have gV' : ((W.setCell ⟨b2, i, none⟩ (.bool true)).setCell ⟨Z, 1, none⟩ (.bool t)).drew.heap[Z]? = some (.cells #[.slice (some ⟨b2, 0, none⟩) m m, .bool t] 28 (0, 0)) := gV
    have rV' : BRow ((W.setCell ⟨b2, i, none⟩ (.bool true)).setCell ⟨Z, 1, none⟩ (.bool t)).drew b2 m m _ := rV
    clear DV gV rV eV hS hS1 hS2 gf1 g11 a0 a1 a2 a3 a4 a5 a6 a7 a8 g0 g1 gf hu huf
    generalize ((W.setCell ⟨b2, i, none⟩ (.bool true)).setCell ⟨Z, 1, none⟩ (.bool t)).drew = V at *
    obtain ⟨y0, y1, y2, y3, y4, y5⟩ := box2 DV'.2.2 (.slice (some ⟨b2, 0, none⟩) m m) (.bool t)
    obtain ⟨v0, v1, _, _, _, _⟩ := box2 gV' (.slice (some ⟨b2, 0, none⟩) m m) (.bool t)
    go_wp2_with fail
    refine bodyPost_ret (v := .tuple #[.agg #[.slice (some ⟨b2, 0, none⟩) m m, .bool t], .bool true]) (by simp [results, Try.results13, go_sem, y4, y5]) rfl ⟨_, rfl, ?_, (kV.setCell (by right; simp; omega) _).setCell (by right; simp; omega) _⟩
    rw [HM.out]
    refine ⟨b2, m, rfl, ((rV'.other hb2 _).other hb2 _).congr fun j _ => ?_⟩
    by_cases e : j = i
    · simp [e]
    · simp [e]

set_option maxHeartbeats 2000000 in
set_option maxRecDepth 100000 in
theorem dk1_c (s : Value) (n i : Nat) (f : Nat → Bool) (t : Bool) (w : World) (hs : SpecSet w s n f t) (hn : n ≤ 6000) (hi : i ≤ 2500) (k : Nat) (hk : k ≤ 2500) :
    Calls Try.prog 13 #[s, .agg #[.int .i64 1, .int .i64 i, .int .i64 k]] w fun e w' => ∃ s', e = .returned (.tuple #[s', .bool true]) ∧ SpecSet w' s' n (fun j => !(j == i) && f j) t ∧ Kept [] w w' := by
  obtain ⟨b, c, rfl⟩ := hs.shape
  have D0 := DoB.start w b c n t 1 i k
  have hB1 : ¬ (k : Int) < 0 := by omega
  have hB2 : ¬ (2500 : Int) < (k : Int) := by omega
  have k0 : Kept [] w (((w.alloc (.cells #[.slice (some ⟨b, 0, none⟩) n c, .bool t] 28)).alloc (.cells #[.int .i64 1, .int .i64 i, .int .i64 k] 34)).alloc (.cells #[.slice none 0 0, .bool false] 28)) := (((Kept.refl _ _).alloc _).alloc _).alloc _
  have h3 : ¬ (6000 : Int) < (n : Int) := by omega
  have h1 : ¬ (i : Int) < 0 := by omega
  have h2 : ¬ (2500 : Int) < (i : Int) := by omega
  by_cases hin : (i : Int) < (n : Int)
  · have i1 : (0 : Int) ≤ (i : Int) := by omega
    go_enter Try.func13, Try.ntmps13
    go_wp2_with fail
    refine (from_c n _ rfl 23 #[.agg #[.slice (some ⟨b, 0, none⟩) n c, .bool t]] #[] _ _ (by omega) callFunc_At (at_closure _ n f t _ (hs.kept k0) n)).mono ?_
    rintro e w1 ⟨b1, rfl, r1, n1, k1⟩
    have D1 := D0.kept k1
    have hs' := hs.kept (k0.trans0 k1)
    obtain ⟨a0, a1, a2, a3, a4, a5, a6, a7, a8⟩ := D1.cells
    obtain ⟨l1, l2, l3⟩ := D1.lt
    have hb1w : w.heap.size ≤ b1 := by simp at n1; omega
    have hb1z : b1 < w1.heap.size := r1.lt
    have kz : Kept [] w1 (w1.alloc (.cells #[.slice (some ⟨b1, 0, none⟩) n n, .bool t] 28)) := (Kept.refl _ _).alloc _
    have rz := r1.alloc (.cells #[.slice (some ⟨b1, 0, none⟩) n n, .bool t] 28)
    have hcl := rz.cell i (by omega)
    have hfz := rz.free i
    have gz := heap_alloc_new w1 (.cells #[.slice (some ⟨b1, 0, none⟩) n n, .bool t] 28)
    have hbz := rz.ne gz (by decide)
    have hb0 := r1.ne D1.1 (by decide)
    have hb1 := r1.ne D1.2.1 (by decide)
    have hb2 := r1.ne D1.2.2 (by decide)
    have DV := D1.others (o := i) hb0 hb1 hb2 (.bool false)
    have rV := r1.set i false (by omega)
    have kV := (k0.trans0 k1).setCell (p := ⟨b1, i, none⟩) (by right; exact hb1w) (.bool false)
    have hD := DV.2.2
    obtain ⟨y4, y5⟩ := box2A hD (.slice (some ⟨b1, 0, none⟩) n n) (.bool t) (.cells #[.slice (some ⟨b1, 0, none⟩) n n, .bool t] 28)
    go_wp2_with fail
    refine bodyPost_ret (v := .tuple #[.agg #[.slice (some ⟨b1, 0, none⟩) n n, .bool t], .bool true]) (by simp [results, Try.results13, go_sem, y4, y5]) rfl ⟨_, rfl, ?_, (((kV.setCell (by right; simp; omega) _).setCell (by right; simp; omega) _).alloc _)⟩
    refine ⟨b1, n, rfl, (((rV.other hb2 _).other hb2 _).alloc _).congr fun j hj => ?_⟩
    by_cases e : j = i
    · simp [e]
    · simp [e, hj]
  · go_enter Try.func13, Try.ntmps13
    go_wp2_with fail
    refine (from_c n _ rfl 23 #[.agg #[.slice (some ⟨b, 0, none⟩) n c, .bool t]] #[] _ _ (by omega) callFunc_At (at_closure _ n f t _ (hs.kept k0) n)).mono ?_
    rintro e w1 ⟨b1, rfl, r1, n1, k1⟩
    have D1 := D0.kept k1
    have hs' := hs.kept (k0.trans0 k1)
    obtain ⟨a0, a1, a2, a3, a4, a5, a6, a7, a8⟩ := D1.cells
    obtain ⟨l1, l2, l3⟩ := D1.lt
    have hb1w : w.heap.size ≤ b1 := by simp at n1; omega
    have hb1z : b1 < w1.heap.size := r1.lt
    have hb2 := r1.ne D1.2.2 (by decide)
    have kV := k0.trans0 k1
    have hD := D1.2.2
    obtain ⟨y4, y5⟩ := box2A hD (.slice (some ⟨b1, 0, none⟩) n n) (.bool t) (.cells #[.slice (some ⟨b1, 0, none⟩) n n, .bool t] 28)
    go_wp2_with fail
    refine bodyPost_ret (v := .tuple #[.agg #[.slice (some ⟨b1, 0, none⟩) n n, .bool t], .bool true]) (by simp [results, Try.results13, go_sem, y4, y5]) rfl ⟨_, rfl, ?_, (((kV.setCell (by right; simp; omega) _).setCell (by right; simp; omega) _).alloc _)⟩
    refine ⟨b1, n, rfl, (((r1.other hb2 _).other hb2 _).alloc _).congr fun j hj => ?_⟩
    have e : (j == i) = false := by simp; omega
    simp [e, hj]

set_option maxHeartbeats 2000000 in
set_option maxRecDepth 100000 in
theorem dk2_c (s : Value) (n i : Nat) (f : Nat → Bool) (t : Bool) (w : World) (hs : SpecSet w s n f t) (hn : n ≤ 6000) (hi : i ≤ 2500) (k : Nat) (hk : k ≤ 2500) :
    Calls Try.prog 13 #[s, .agg #[.int .i64 2, .int .i64 i, .int .i64 k]] w fun e w' => ∃ s', e = .returned (.tuple #[s', .bool true]) ∧ SpecSet w' s' (max n (i + 1)) (fun j => (j == i) ^^ (decide (j < n) && f j)) t ∧ Kept [] w w' := by
  obtain ⟨b, c, rfl⟩ := hs.shape
  have D0 := DoB.start w b c n t 2 i k
  have hB1 : ¬ (k : Int) < 0 := by omega
  have hB2 : ¬ (2500 : Int) < (k : Int) := by omega
  have k0 : Kept [] w (((w.alloc (.cells #[.slice (some ⟨b, 0, none⟩) n c, .bool t] 28)).alloc (.cells #[.int .i64 2, .int .i64 i, .int .i64 k] 34)).alloc (.cells #[.slice none 0 0, .bool false] 28)) := (((Kept.refl _ _).alloc _).alloc _).alloc _
  have h1 : ¬ (i : Int) < 0 := by omega
  have h2 : ¬ (2500 : Int) < (i : Int) := by omega
  have h3 : ¬ (6000 : Int) < (n : Int) := by omega
  by_cases h4 : (n : Int) < (i : Int) + 1
  all_goals
    go_enter Try.func13, Try.ntmps13
    go_wp2_with fail
    refine (from_c n _ rfl 23 #[.agg #[.slice (some ⟨b, 0, none⟩) n c, .bool t]] #[] _ _ (by omega) callFunc_At (at_closure _ n f t _ (hs.kept k0) n)).mono ?_
    rintro e w1 ⟨b1, rfl, r1, n1, k1⟩
    have D1 := D0.kept k1
    have hs' := hs.kept (k0.trans0 k1)
    obtain ⟨a0, a1, a2, a3, a4, a5, a6, a7, a8⟩ := D1.cells
    obtain ⟨l1, l2, l3⟩ := D1.lt
    go_wp2_with fail
    refine (at_c _ n f t i _ (hs'.kept ((Kept.refl _ _).alloc _))).mono ?_
    rintro e wa ⟨rfl, ka⟩
    have Da := (D1.kept ((Kept.refl _ _).alloc _)).kept ka
    clear a0 a1 a2 a3 a4 a5 a6 a7 a8
    obtain ⟨a0, a1, a2, a3, a4, a5, a6, a7, a8⟩ := Da.cells
    obtain ⟨m1, m2, m3⟩ := Da.lt
    obtain ⟨x, hx⟩ : ∃ x, fAt n f (i : Int) = x := ⟨_, rfl⟩
    rw [hx]
    have HX := Lib.hid hx; clear hx
    obtain ⟨z0, z1, z2, z3, _, _⟩ := box2 (ka.heap (by simp) (heap_alloc_new w1 (.cells #[.slice (some ⟨b1, 0, none⟩) n n, .bool t] 28))) (.bool true) (.bool true)
    go_wp2_with fail
    refine (from_c (max n (i + 1)) _ (by omega) 23 #[.agg #[.slice (some ⟨b, 0, none⟩) n c, .bool t]] #[] _ _ (by omega) callFunc_At (at_closure _ n f t _ ((hs'.kept ((Kept.refl _ _).alloc _)).kept ka) _)).mono ?_
    rintro e w2 ⟨b2, rfl, r2, n2', k2'⟩
    have k2 := ka.trans0 k2'
    have n2 := Nat.le_trans ka.size n2'
    clear z0 z1 z2 z3
    obtain ⟨m, hm⟩ : ∃ m, max n (i + 1) = m := ⟨_, rfl⟩
    have him : i < m := by omega
    rw [hm] at r2 ⊢
    have HM := Lib.hid hm; clear hm
    have kz : Kept [] w1 (w1.alloc (.cells #[.slice (some ⟨b1, 0, none⟩) n n, .bool t] 28)) := (Kept.refl _ _).alloc _
    have gz := k2.heap (by simp) (heap_alloc_new w1 (.cells #[.slice (some ⟨b1, 0, none⟩) n n, .bool t] 28))
    have D2 := (D1.kept kz).kept k2
    clear a0 a1 a2 a3 a4 a5 a6 a7 a8
    obtain ⟨z0, z1, z2, z3, z4, z5⟩ := box2 gz (.slice (some ⟨b2, 0, none⟩) m m) (.bool true)
    have hZ : w.heap.size + 1 + 1 < w1.heap.size := l3
    have hb2w : w.heap.size ≤ b2 := by have := k1.size; simp at n2 this; omega
    have gW := setCell_heap_same (o := 1) (setCell_heap_same (o := 0) gz (.slice (some ⟨b2, 0, none⟩) m m)) (.bool true)
    have DW := (D2.other (o := 0) hZ (.slice (some ⟨b2, 0, none⟩) m m)).other (o := 1) hZ (.bool true)
    have hbz := r2.ne gz (by decide)
    have hb0 := r2.ne D2.1 (by decide)
    have hb1 := r2.ne D2.2.1 (by decide)
    have hb2 := r2.ne D2.2.2 (by decide)
    have rW := (r2.other (o := 0) hbz (.slice (some ⟨b2, 0, none⟩) m m)).other (o := 1) hbz (.bool true)
    have kW : Kept [] w ((w2.setCell ⟨w1.heap.size, 0, none⟩ (.slice (some ⟨b2, 0, none⟩) m m)).setCell ⟨w1.heap.size, 1, none⟩ (.bool true)) :=
      ((((k0.trans0 k1).trans0 kz).trans0 k2).setCell (by right; simp; omega) _).setCell (by right; simp; omega) _
    go_wp2_with fail
    generalize ((w2.setCell ⟨w1.heap.size, 0, none⟩ (.slice (some ⟨b2, 0, none⟩) m m)).setCell ⟨w1.heap.size, 1, none⟩ (.bool true)) = W at *
    generalize w1.heap.size = Z at *
    clear z0 z1 z2 z3 z4 z5 gz D2 kz k2 r2 hs' D1 r1 k1 l1 l2 l3 n1 n2 n2' k2' Da ka m1 m2 m3
    have him2 : (0 : Int) ≤ (i : Int) := by omega
    have him3 : (i : Int) < (m : Int) := by omega
    obtain ⟨a0, a1, a2, a3, a4, a5, a6, a7, a8⟩ := DW.cells
    have g0 : W.cell? ⟨Z, 0, none⟩ = some (.slice (some ⟨b2, 0, none⟩) m m) := (cell_of_heap gW).trans rfl
    have g1 : W.cell? ⟨Z, 1, none⟩ = some (.bool true) := (cell_of_heap gW).trans rfl
    have gf : W.frozen? ⟨Z, 1, none⟩ = false := free_of_heap gW
    obtain ⟨u, hu⟩ := rW.any i him
    have huf := rW.free i
    refine wp_region_held_drew (S := fun w' => w'.cell? ⟨Z, 0, none⟩ = some (.slice (some ⟨b2, 0, none⟩) m m) ∧ w'.cell? ⟨w.heap.size + 1, 1, none⟩ = some (.int .i64 i) ∧ w'.cell? ⟨w.heap.size, 1, none⟩ = some (.bool t)) (by kernel_rfl) ⟨g0, a3, a1⟩ (fun hS => ?_)
    refine takeD 0 68 (v := ?_) rfl rfl (by kernel_rfl) (by kernel_rfl) (by kernel_rfl) (fun _ _ _ h => h) (Or.inl ⟨by kernel_rfl, ?_⟩) hS ?_
    rotate_left 1
    · (intro w' hw'; (try dsimp only at hw'); go_simp; try with_reducible rfl)
    simp only [List.setIfInBounds_toArray, List.set_cons_zero, List.set_cons_succ]
    refine takeD 1 69 (v := ?_) rfl rfl (by kernel_rfl) (by kernel_rfl) (by kernel_rfl) (fun _ _ _ h => h) (Or.inl ⟨by kernel_rfl, ?_⟩) hS ?_
    rotate_left 1
    · (intro w' hw'; (try dsimp only at hw'); go_simp; try with_reducible rfl)
    simp only [List.setIfInBounds_toArray, List.set_cons_zero, List.set_cons_succ]
    refine takeD 2 70 (v := ?_) rfl rfl (by kernel_rfl) (by kernel_rfl) (by kernel_rfl) (fun _ _ _ h => h) (Or.inl ⟨by kernel_rfl, ?_⟩) hS ?_
    rotate_left 1
    · (intro w' hw'; (try dsimp only at hw'); go_simp; try with_reducible rfl)
    simp only [List.setIfInBounds_toArray, List.set_cons_zero, List.set_cons_succ]
    refine takeD 3 71 (v := ?_) rfl rfl (by kernel_rfl) (by kernel_rfl) (by kernel_rfl) (fun _ _ _ h => h) (Or.inl ⟨by kernel_rfl, ?_⟩) hS ?_
    rotate_left 1
    · (intro w' hw'; (try dsimp only at hw'); go_simp; try with_reducible rfl)
    simp only [List.setIfInBounds_toArray, List.set_cons_zero, List.set_cons_succ]
    refine takeD 4 72 (v := ?_) rfl rfl (by kernel_rfl) (by kernel_rfl) (by kernel_rfl) (fun _ _ _ h => h) (Or.inl ⟨by kernel_rfl, ?_⟩) hS ?_
    rotate_left 1
    · (intro w' hw'; (try dsimp only at hw'); go_simp; try with_reducible rfl)
    simp only [List.setIfInBounds_toArray, List.set_cons_zero, List.set_cons_succ]
    refine takeD 5 73 (v := ?_) rfl rfl (by kernel_rfl) (by kernel_rfl) (by kernel_rfl) (fun _ _ _ h => h) (Or.inl ⟨by kernel_rfl, ?_⟩) hS ?_
    rotate_left 1
    · (intro w' hw'; (try dsimp only at hw'); go_simp; try with_reducible rfl)
    simp only [List.setIfInBounds_toArray, List.set_cons_zero, List.set_cons_succ]
    refine takeD 6 74 (v := ?_) rfl rfl (by kernel_rfl) (by kernel_rfl) (by kernel_rfl) (fun _ _ _ h => h) (Or.inl ⟨by kernel_rfl, ?_⟩) hS ?_
    rotate_left 1
    · (intro w' hw'; (try dsimp only at hw'); go_simp; try with_reducible rfl)
    simp only [List.setIfInBounds_toArray, List.set_cons_zero, List.set_cons_succ]
    refine takeD 7 75 (v := ?_) rfl rfl (by kernel_rfl) (by kernel_rfl) (by kernel_rfl) (fun _ _ _ h => h) (Or.inl ⟨by kernel_rfl, ?_⟩) hS ?_
    rotate_left 1
    · (intro w' hw'; (try dsimp only at hw'); go_simp; try with_reducible rfl)
    simp only [List.setIfInBounds_toArray, List.set_cons_zero, List.set_cons_succ]
    refine wpAnyH_ready (rs := [8]) (by kernel_rfl) (by simp) ?_
    refine AllReadyH.cons rfl (fun K hK => ?_) AllReadyH.nil
    go_simp
    refine hK.out _ _ ?_ (fun hS1 => ?_)
    · exact ⟨(World.cell?_setCell_other _ _ _ _ (by simp <;> omega)).trans g0, (World.cell?_setCell_other _ _ _ _ (by simp <;> omega)).trans a3, (World.cell?_setCell_other _ _ _ _ (by simp <;> omega)).trans a1⟩
    clear hK K
    (try simp only [Act.put, List.setIfInBounds_toArray, List.set_cons_zero, List.set_cons_succ])
    have gf1 : (W.setCell ⟨b2, i, none⟩ (.bool (!x))).frozen? ⟨Z, 1, none⟩ = false := (World.frozen?_setCell _ _ _ _).trans gf
    have g11 : (W.setCell ⟨b2, i, none⟩ (.bool (!x))).cell? ⟨Z, 1, none⟩ = some (.bool true) := (World.cell?_setCell_other _ _ _ _ (by simp <;> omega)).trans g1
    refine takeD 9 76 (v := ?_) rfl rfl (by kernel_rfl) (by kernel_rfl) (by kernel_rfl) (fun _ _ _ h => h) (Or.inl ⟨by kernel_rfl, ?_⟩) hS1 ?_
    rotate_left 1
    · (intro w' hw'; (try dsimp only at hw'); go_simp; try with_reducible rfl)
    simp only [List.setIfInBounds_toArray, List.set_cons_zero, List.set_cons_succ]
    refine wpAnyH_ready (rs := [10]) (by kernel_rfl) (by simp) ?_
    refine AllReadyH.cons rfl (fun K hK => ?_) AllReadyH.nil
    go_simp
    refine hK.out _ _ ?_ (fun hS2 => ?_)
    · exact ⟨(World.cell?_setCell_other _ _ _ _ (by simp)).trans hS1.1, (World.cell?_setCell_other _ _ _ _ (by simp <;> omega)).trans hS1.2.1, (World.cell?_setCell_other _ _ _ _ (by simp <;> omega)).trans hS1.2.2⟩
    clear hK K
    (try simp only [Act.put, List.setIfInBounds_toArray, List.set_cons_zero, List.set_cons_succ])
    have DV := (DW.others (o := i) hb0 hb1 hb2 (.bool (!x))).other (o := 1) hZ (.bool t)
    have gV := setCell_heap_same (o := 1) (setCell_heap_other (o := i) gW (Ne.symm hbz) (.bool (!x))) (.bool t)
    have rV := (rW.set i (!x) him).other (o := 1) hbz (.bool t)
    have kV : Kept [] w (((W.setCell ⟨b2, i, none⟩ (.bool (!x))).setCell ⟨Z, 1, none⟩ (.bool t)).drew) := ((kW.setCell (by right; exact hb2w) _).setCell (by right; simp; omega) _).drew
    refine wpAnyH_done (by kernel_rfl) ?_ _
    have eV : ((W.setCell ⟨b2, i, none⟩ (.bool (!x))).setCell ⟨Z, 1, none⟩ (.bool t)).drew.heap = ((W.setCell ⟨b2, i, none⟩ (.bool (!x))).setCell ⟨Z, 1, none⟩ (.bool t)).heap := rfl
    have DV' : DoB ((W.setCell ⟨b2, i, none⟩ (.bool (!x))).setCell ⟨Z, 1, none⟩ (.bool t)).drew w.heap.size b c n t 2 i k := DV
    have gV' : ((W.setCell ⟨b2, i, none⟩ (.bool (!x))).setCell ⟨Z, 1, none⟩ (.bool t)).drew.heap[Z]? = some (.cells #[.slice (some ⟨b2, 0, none⟩) m m, .bool t] 28 (0, 0)) := gV
    have rV' : BRow ((W.setCell ⟨b2, i, none⟩ (.bool (!x))).setCell ⟨Z, 1, none⟩ (.bool t)).drew b2 m m _ := rV
    clear DV gV rV eV hS hS1 hS2 gf1 g11 a0 a1 a2 a3 a4 a5 a6 a7 a8 g0 g1 gf hu huf
    generalize ((W.setCell ⟨b2, i, none⟩ (.bool (!x))).setCell ⟨Z, 1, none⟩ (.bool t)).drew = V at *
    obtain ⟨y0, y1, y2, y3, y4, y5⟩ := box2 DV'.2.2 (.slice (some ⟨b2, 0, none⟩) m m) (.bool t)
    obtain ⟨v0, v1, _, _, _, _⟩ := box2 gV' (.slice (some ⟨b2, 0, none⟩) m m) (.bool t)
    go_wp2_with fail
    refine bodyPost_ret (v := .tuple #[.agg #[.slice (some ⟨b2, 0, none⟩) m m, .bool t], .bool true]) (by simp [results, Try.results13, go_sem, y4, y5]) rfl ⟨_, rfl, ?_, (kV.setCell (by right; simp; omega) _).setCell (by right; simp; omega) _⟩
    rw [HM.out]
    refine ⟨b2, m, rfl, ((rV'.other hb2 _).other hb2 _).congr fun j _ => ?_⟩
    by_cases e : j = i
    · subst e
      rw [← HX.out]
      simp [fAt]
    · rw [if_neg e, beq_eq_false_iff_ne.2 e]; simp

set_option maxHeartbeats 2000000 in
set_option maxRecDepth 100000 in
theorem dk10_c (s : Value) (n i : Nat) (f : Nat → Bool) (t : Bool) (w : World) (hs : SpecSet w s n f t) (hn : n ≤ 6000) (hi : i ≤ 2500) (k : Nat) (hk : k ≤ 2500) :
    Calls Try.prog 13 #[s, .agg #[.int .i64 10, .int .i64 i, .int .i64 k]] w fun e w' => ∃ s', e = .returned (.tuple #[s', .bool true]) ∧ SpecSet w' s' n (fun _ => false) t ∧ Kept [] w w' := by
  obtain ⟨b, c, rfl⟩ := hs.shape
  have D0 := DoB.start w b c n t 10 i k
  have hB1 : ¬ (k : Int) < 0 := by omega
  have hB2 : ¬ (2500 : Int) < (k : Int) := by omega
  have h1 : ¬ (i : Int) < 0 := by omega
  have h2 : ¬ (2500 : Int) < (i : Int) := by omega
  have k0 : Kept [] w (((w.alloc (.cells #[.slice (some ⟨b, 0, none⟩) n c, .bool t] 28)).alloc (.cells #[.int .i64 10, .int .i64 i, .int .i64 k] 34)).alloc (.cells #[.slice none 0 0, .bool false] 28)) := (((Kept.refl _ _).alloc _).alloc _).alloc _
  have h3 : ¬ (6000 : Int) < (n : Int) := by omega
  go_enter Try.func13, Try.ntmps13
  go_wp2_with fail
  refine (from_c n _ rfl 23 #[.agg #[.slice (some ⟨b, 0, none⟩) n c, .bool t]] #[] _ _ (by omega) callFunc_At (at_closure _ n f t _ (hs.kept k0) n)).mono ?_
  rintro e w1 ⟨b1, rfl, r1, n1, k1⟩
  have D1 := D0.kept k1
  have hs' := hs.kept (k0.trans0 k1)
  obtain ⟨a0, a1, a2, a3, a4, a5, a6, a7, a8⟩ := D1.cells
  obtain ⟨l1, l2, l3⟩ := D1.lt
  have hb1w : w.heap.size ≤ b1 := by simp at n1; omega
  have hb1z : b1 < w1.heap.size := r1.lt
  go_wp2_with fail
  refine (from_c n _ rfl 37 #[] #[] (fun _ => false) _ (by omega) (fun args w => by kernel_rfl) (fun i w' _ _ => by go_enter Try.func37, Try.ntmps37; go_wp2; go_ret; exact ⟨rfl, Kept.refl _ _⟩)).mono ?_
  rintro e w2 ⟨b2, rfl, r2, n2, k2⟩
  have kz : Kept [] w1 (w1.alloc (.cells #[.slice (some ⟨b1, 0, none⟩) n n, .bool t] 28)) := (Kept.refl _ _).alloc _
  have gz := k2.heap (by simp) (heap_alloc_new w1 (.cells #[.slice (some ⟨b1, 0, none⟩) n n, .bool t] 28))
  have D2 := (D1.kept kz).kept k2
  have hZ : w.heap.size + 1 + 1 < w1.heap.size := l3
  have hb2w : w.heap.size ≤ b2 := by have := k1.size; simp at n2 this; omega
  clear a0 a1 a2 a3 a4 a5 a6 a7 a8
  have hbz := r2.ne gz (by decide)
  have hb2 := r2.ne D2.2.2 (by decide)
  obtain ⟨a0, a1, a2, a3, a4, a5, a6, a7, a8⟩ := D2.cells
  obtain ⟨z0, z1, z2, z3, z4, z5⟩ := box2 gz (.slice (some ⟨b2, 0, none⟩) n n) (.bool true)
  have gW := setCell_heap_same (o := 1) (setCell_heap_same (o := 0) gz (.slice (some ⟨b2, 0, none⟩) n n)) (.bool true)
  have DW := (D2.other (o := 0) hZ (.slice (some ⟨b2, 0, none⟩) n n)).other (o := 1) hZ (.bool true)
  have rW := (r2.other (o := 0) hbz (.slice (some ⟨b2, 0, none⟩) n n)).other (o := 1) hbz (.bool true)
  have kW : Kept [] w ((w2.setCell ⟨w1.heap.size, 0, none⟩ (.slice (some ⟨b2, 0, none⟩) n n)).setCell ⟨w1.heap.size, 1, none⟩ (.bool true)) :=
    ((((k0.trans0 k1).trans0 kz).trans0 k2).setCell (by right; simp; omega) _).setCell (by right; simp; omega) _
  have gV := setCell_heap_same (o := 1) gW (.bool t)
  have DV := DW.other (o := 1) hZ (.bool t)
  have rV := rW.other (o := 1) hbz (.bool t)
  have kV := kW.setCell (p := ⟨w1.heap.size, 1, none⟩) (by right; simp; omega) (.bool t)
  have hD := DV.2.2
  obtain ⟨_, u1, _, u3, _, _⟩ := box2 gW (.bool true) (.bool true)
  have a1' : ((w2.setCell ⟨w1.heap.size, 0, none⟩ (.slice (some ⟨b2, 0, none⟩) n n)).setCell ⟨w1.heap.size, 1, none⟩ (.bool true)).cell? ⟨w.heap.size, 1, none⟩ = some (.bool t) := DW.cells.2.1
  obtain ⟨v0, v1, _, _, _, _⟩ := box2 gV (.bool true) (.bool true)
  obtain ⟨y0, y1, y2, y3, y4, y5⟩ := box2 hD (.slice (some ⟨b2, 0, none⟩) n n) (.bool t)
  go_wp2_with fail
  refine bodyPost_ret (v := .tuple #[.agg #[.slice (some ⟨b2, 0, none⟩) n n, .bool t], .bool true]) (by simp [results, Try.results13, go_sem, y4, y5]) rfl ⟨_, rfl, ?_, (kV.setCell (by right; simp; omega) _).setCell (by right; simp; omega) _⟩
  exact ⟨b2, n, rfl, (rV.other hb2 _).other hb2 _⟩

set_option maxHeartbeats 2000000 in
set_option maxRecDepth 100000 in
theorem dk11_c (s : Value) (n i : Nat) (f : Nat → Bool) (t : Bool) (w : World) (hs : SpecSet w s n f t) (hn : n ≤ 6000) (ht : t = true) (hi : i ≤ 2500) (k : Nat) (hk : k ≤ 2500) :
    Calls Try.prog 13 #[s, .agg #[.int .i64 11, .int .i64 i, .int .i64 k]] w fun e w' => ∃ s', e = .returned (.tuple #[s', .bool true]) ∧ SpecSet w' s' n (fun _ => true) true ∧ Kept [] w w' := by
  subst ht
  obtain ⟨b, c, rfl⟩ := hs.shape
  have D0 := DoB.start w b c n true 11 i k
  have hB1 : ¬ (k : Int) < 0 := by omega
  have hB2 : ¬ (2500 : Int) < (k : Int) := by omega
  have h1 : ¬ (i : Int) < 0 := by omega
  have h2 : ¬ (2500 : Int) < (i : Int) := by omega
  have k0 : Kept [] w (((w.alloc (.cells #[.slice (some ⟨b, 0, none⟩) n c, .bool true] 28)).alloc (.cells #[.int .i64 11, .int .i64 i, .int .i64 k] 34)).alloc (.cells #[.slice none 0 0, .bool false] 28)) := (((Kept.refl _ _).alloc _).alloc _).alloc _
  have h3 : ¬ (6000 : Int) < (n : Int) := by omega
  go_enter Try.func13, Try.ntmps13
  go_wp2_with fail
  refine (from_c n _ rfl 23 #[.agg #[.slice (some ⟨b, 0, none⟩) n c, .bool true]] #[] _ _ (by omega) callFunc_At (at_closure _ n f true _ (hs.kept k0) n)).mono ?_
  rintro e w1 ⟨b1, rfl, r1, n1, k1⟩
  have D1 := D0.kept k1
  have hs' := hs.kept (k0.trans0 k1)
  obtain ⟨a0, a1, a2, a3, a4, a5, a6, a7, a8⟩ := D1.cells
  obtain ⟨l1, l2, l3⟩ := D1.lt
  have hb1w : w.heap.size ≤ b1 := by simp at n1; omega
  have hb1z : b1 < w1.heap.size := r1.lt
  go_wp2_with fail
  refine (from_c n _ rfl 38 #[] #[] (fun _ => true) _ (by omega) (fun args w => by kernel_rfl) (fun i w' _ _ => by go_enter Try.func38, Try.ntmps38; go_wp2; go_ret; exact ⟨rfl, Kept.refl _ _⟩)).mono ?_
  rintro e w2 ⟨b2, rfl, r2, n2, k2⟩
  have kz : Kept [] w1 (w1.alloc (.cells #[.slice (some ⟨b1, 0, none⟩) n n, .bool true] 28)) := (Kept.refl _ _).alloc _
  have gz := k2.heap (by simp) (heap_alloc_new w1 (.cells #[.slice (some ⟨b1, 0, none⟩) n n, .bool true] 28))
  have D2 := (D1.kept kz).kept k2
  have hZ : w.heap.size + 1 + 1 < w1.heap.size := l3
  have hb2w : w.heap.size ≤ b2 := by have := k1.size; simp at n2 this; omega
  clear a0 a1 a2 a3 a4 a5 a6 a7 a8
  have hbz := r2.ne gz (by decide)
  have hb2 := r2.ne D2.2.2 (by decide)
  obtain ⟨a0, a1, a2, a3, a4, a5, a6, a7, a8⟩ := D2.cells
  obtain ⟨z0, z1, z2, z3, z4, z5⟩ := box2 gz (.slice (some ⟨b2, 0, none⟩) n n) (.bool true)
  have gW := setCell_heap_same (o := 1) (setCell_heap_same (o := 0) gz (.slice (some ⟨b2, 0, none⟩) n n)) (.bool true)
  have DW := (D2.other (o := 0) hZ (.slice (some ⟨b2, 0, none⟩) n n)).other (o := 1) hZ (.bool true)
  have rW := (r2.other (o := 0) hbz (.slice (some ⟨b2, 0, none⟩) n n)).other (o := 1) hbz (.bool true)
  have kW : Kept [] w ((w2.setCell ⟨w1.heap.size, 0, none⟩ (.slice (some ⟨b2, 0, none⟩) n n)).setCell ⟨w1.heap.size, 1, none⟩ (.bool true)) :=
    ((((k0.trans0 k1).trans0 kz).trans0 k2).setCell (by right; simp; omega) _).setCell (by right; simp; omega) _
  have hD := DW.2.2
  have kV := kW
  obtain ⟨v0, v1, _, _, _, _⟩ := box2 gW (.bool true) (.bool true)
  obtain ⟨y0, y1, y2, y3, y4, y5⟩ := box2 hD (.slice (some ⟨b2, 0, none⟩) n n) (.bool true)
  go_wp2_with fail
  refine bodyPost_ret (v := .tuple #[.agg #[.slice (some ⟨b2, 0, none⟩) n n, .bool true], .bool true]) (by simp [results, Try.results13, go_sem, y4, y5]) rfl ⟨_, rfl, ?_, (kV.setCell (by right; simp; omega) _).setCell (by right; simp; omega) _⟩
  exact ⟨b2, n, rfl, (rW.other hb2 _).other hb2 _⟩

end Go.Proofs.Ytiaghdnhapiioaa

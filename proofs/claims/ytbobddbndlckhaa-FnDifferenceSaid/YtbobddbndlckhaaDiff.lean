/-
  The contract of Difference: a new set; for sets of at most 20000 bits.
-/
import Derived.Test.YtbobddbndlckhaaTwo
import Derived.Test.YtbobddbndlckhaaClone
namespace Go.Proofs.Ytbobddbndlckhaa
set_option linter.unusedSimpArgs false
set_option linter.unusedVariables false
open Go.RowKit


set_option maxHeartbeats 2000000 in
theorem difference_c (b1 g1 n1 b2 g2 n2 : Nat) (f1 f2 : Nat → Bool) (w : World) (h1 : BSet w b1 g1 n1 f1) (h2 : BSet w b2 g2 n2 f2) (hn1 : n1 ≤ 20000) (hn2 : n2 ≤ 20000) :
    Calls Try.prog 55 #[.pointer (some ⟨b1, 0, none⟩), .pointer (some ⟨b2, 0, none⟩)] w fun e w' => ∃ b3 g3, e = .returned (.pointer (some ⟨b3, 0, none⟩)) ∧ BSet w' b3 g3 n1 (fun j => (decide (j < n1) && f1 j) && !(decide (j < n2) && f2 j)) ∧ w.heap.size ≤ b3 ∧ w.heap.size ≤ g3 ∧ Kept [] w w' := by
  obtain ⟨p1, hp1⟩ : ∃ p, (n1 + 63) / 64 = p := ⟨_, rfl⟩
  obtain ⟨p2, hp2⟩ : ∃ p, (n2 + 63) / 64 = p := ⟨_, rfl⟩
  have HP1 := Lib.hid hp1; have HP2 := Lib.hid hp2; clear hp1 hp2
  by_cases hle : (p1 : Int) < (p2 : Int)
  · go_enter Try.func55, Try.ntmps55
    go_wp2_with (go_at_call 75; refine (panicIfNull_c _ _).mono ?_; rintro e w' ⟨rfl, rfl⟩)
    refine (clone_c b1 g1 n1 f1 _ h1 hn1).mono ?_
    rintro e w1 ⟨b3, g3, rfl, h3, m1, m2, k1⟩
    have hx' := h1.kept k1 (by simp) (by simp)
    have hy' := h2.kept k1 (by simp) (by simp)
    go_wp2_with fail
    refine (wordCount_c b2 g2 n2 f2 _ hy' (by omega)).mono ?_
    rintro e w' ⟨rfl, rfl⟩
    rw [HP2.out]
    go_wp2_with fail
    refine (wordCount_c b1 g1 n1 f1 _ hx' (by omega)).mono ?_
    rintro e w' ⟨rfl, rfl⟩
    rw [HP1.out]
    go_wp2_with fail
    refine (wordCount_c b1 g1 n1 f1 _ hx' (by omega)).mono ?_
    rintro e w' ⟨rfl, rfl⟩
    rw [HP1.out]
    go_wp2_with fail
    have l1 := h1.lt
    have l2 := h2.lt
    obtain ⟨hne3, cap3, zs, hh3, hr3, hw3⟩ := h3
    obtain ⟨hnex, capx, xs, hhx, hrx, hwx⟩ := hx'
    obtain ⟨hney, capy, ys, hhy, hry, hwy⟩ := hy'
    have hlx := hwx.length
    have hly := hwy.length
    have hlz := hw3.length
    rw [HP1.out] at hlx hlz
    rw [HP2.out] at hly
    have hcx := hrx.le
    have hcy := hry.le
    have hcz := hr3.le
    rw [hlx] at hhx hcx
    rw [hly] at hhy hcy
    rw [hlz] at hh3 hcz
    have HX := Lib.hid hlx; have HY := Lib.hid hly; have HZ := Lib.hid hlz
    clear hlx hly hlz
    have hp1 : p1 ≤ 313 := by have := HP1.out; omega
    have hp2 : p2 ≤ 313 := by have := HP2.out; omega
    have hst : Kept [b3, g3] w1 w1 ∧ Hdr w1 b3 n1 g3 p1 cap3 ∧ URow w1 g3 (mix andNot xs ys zs 0) cap3 := ⟨Kept.refl _ _, hh3, by rw [mix_zero]; exact hr3⟩
    go_loopw [6] (fun v wr => ∃ k : Nat, k ≤ p1 ∧ v = .int .i64 k ∧ Kept [b3, g3] w1 wr ∧ Hdr wr b3 n1 g3 p1 cap3 ∧ URow wr g3 (mix andNot xs ys zs k) cap3) (fun v _ => p1 - (intOf v).toNat)
    case atStart => exact ⟨0, Nat.zero_le _, rfl, hst⟩
    case round =>
      obtain ⟨k, hk, rfl, q1, q2, q3⟩ := hrel
      by_cases hkm : k < p1
      · have qx := hrx.kept q1 (by simp; omega)
        have qy := hry.kept q1 (by simp; omega)
        have px := hhx.kept q1 (by simp; omega)
        have py := hhy.kept q1 (by simp; omega)
        have cx := qx.cell k (by rw [HX.out]; omega)
        have cy := qy.cell k (by rw [HY.out]; omega)
        have c3 := q2.c1
        have cx1 := px.c1
        have cy1 := py.c1
        have hf := q3.free k
        obtain ⟨u, hu⟩ := q3.any k (by omega)
        have hop := (fun a b ha hb => bits_andNot_nat a b ha hb) (xs.getD k 0) (ys.getD k 0) (wgetD_lt hwx.lt k) (wgetD_lt hwy.lt k)
        have R := q3.set k (andNot (xs.getD k 0) (ys.getD k 0))
        rw [mix_step] at R
        have hne3' : b3 ≠ g3 := hne3
        have q2' := q2.other (o := k) hne3' (.int .u64 ((andNot (xs.getD k 0) (ys.getD k 0) : Nat) : Int))
        have q1' := q1.drew.setCell (p := ⟨g3, k, none⟩) (by left; simp) (.int .u64 ((andNot (xs.getD k 0) (ys.getD k 0) : Nat) : Int))
        rw [← hop] at R q2' q1'
        generalize xs.getD k 0 = X at *
        generalize ys.getD k 0 = Y at *
        have HO := Lib.hid hop; clear hop
        have i0 : (0 : Int) ≤ (k : Int) := by omega
        have i1 : (k : Int) < (p1 : Int) := by omega
        have i2 : (k : Int) < (p2 : Int) := by omega
        go_wp2
        refine wp_region_held_drew (S := fun w' => w'.cell? ⟨b3, 1, none⟩ = some (.slice (some ⟨g3, 0, none⟩) p1 cap3) ∧ w'.cell? ⟨b1, 1, none⟩ = some (.slice (some ⟨g1, 0, none⟩) p1 capx) ∧ w'.cell? ⟨g1, k, none⟩ = some (.int .u64 (X : Int)) ∧ w'.cell? ⟨b2, 1, none⟩ = some (.slice (some ⟨g2, 0, none⟩) p2 capy) ∧ w'.cell? ⟨g2, k, none⟩ = some (.int .u64 (Y : Int))) (by kernel_rfl) ⟨c3, cx1, cx, cy1, cy⟩ (fun hS => ?_)
        refine takeD 0 26 (v := ?_) rfl rfl (by kernel_rfl) (by kernel_rfl) (by kernel_rfl) (fun _ _ _ h => h) (Or.inl ⟨by kernel_rfl, ?_⟩) hS ?_
        rotate_left 1
        · (intro w' hw'; (try dsimp only at hw'); go_simp; try with_reducible rfl)
        simp only [List.setIfInBounds_toArray, List.set_cons_zero, List.set_cons_succ]
        refine takeD 1 27 (v := ?_) rfl rfl (by kernel_rfl) (by kernel_rfl) (by kernel_rfl) (fun _ _ _ h => h) (Or.inl ⟨by kernel_rfl, ?_⟩) hS ?_
        rotate_left 1
        · (intro w' hw'; (try dsimp only at hw'); go_simp; try with_reducible rfl)
        simp only [List.setIfInBounds_toArray, List.set_cons_zero, List.set_cons_succ]
        refine takeD 2 28 (v := ?_) rfl rfl (by kernel_rfl) (by kernel_rfl) (by kernel_rfl) (fun _ _ _ h => h) (Or.inl ⟨by kernel_rfl, ?_⟩) hS ?_
        rotate_left 1
        · (intro w' hw'; (try dsimp only at hw'); go_simp; try with_reducible rfl)
        simp only [List.setIfInBounds_toArray, List.set_cons_zero, List.set_cons_succ]
        refine takeD 3 29 (v := ?_) rfl rfl (by kernel_rfl) (by kernel_rfl) (by kernel_rfl) (fun _ _ _ h => h) (Or.inl ⟨by kernel_rfl, ?_⟩) hS ?_
        rotate_left 1
        · (intro w' hw'; (try dsimp only at hw'); go_simp; try with_reducible rfl)
        simp only [List.setIfInBounds_toArray, List.set_cons_zero, List.set_cons_succ]
        refine takeD 4 30 (v := ?_) rfl rfl (by kernel_rfl) (by kernel_rfl) (by kernel_rfl) (fun _ _ _ h => h) (Or.inl ⟨by kernel_rfl, ?_⟩) hS ?_
        rotate_left 1
        · (intro w' hw'; (try dsimp only at hw'); go_simp; try with_reducible rfl)
        simp only [List.setIfInBounds_toArray, List.set_cons_zero, List.set_cons_succ]
        refine takeD 5 31 (v := ?_) rfl rfl (by kernel_rfl) (by kernel_rfl) (by kernel_rfl) (fun _ _ _ h => h) (Or.inl ⟨by kernel_rfl, ?_⟩) hS ?_
        rotate_left 1
        · (intro w' hw'; (try dsimp only at hw'); go_simp; try with_reducible rfl)
        simp only [List.setIfInBounds_toArray, List.set_cons_zero, List.set_cons_succ]
        refine takeD 6 32 (v := ?_) rfl rfl (by kernel_rfl) (by kernel_rfl) (by kernel_rfl) (fun _ _ _ h => h) (Or.inl ⟨by kernel_rfl, ?_⟩) hS ?_
        rotate_left 1
        · (intro w' hw'; (try dsimp only at hw'); go_simp; try with_reducible rfl)
        simp only [List.setIfInBounds_toArray, List.set_cons_zero, List.set_cons_succ]
        refine takeD 7 33 (v := ?_) rfl rfl (by kernel_rfl) (by kernel_rfl) (by kernel_rfl) (fun _ _ _ h => h) (Or.inl ⟨by kernel_rfl, ?_⟩) hS ?_
        rotate_left 1
        · (intro w' hw'; (try dsimp only at hw'); go_simp; try with_reducible rfl)
        simp only [List.setIfInBounds_toArray, List.set_cons_zero, List.set_cons_succ]
        refine takeD 8 34 (v := ?_) rfl rfl (by kernel_rfl) (by kernel_rfl) (by kernel_rfl) (fun _ _ _ h => h) (Or.inl ⟨by kernel_rfl, ?_⟩) hS ?_
        rotate_left 1
        · (intro w' hw'; (try dsimp only at hw'); go_simp; try with_reducible rfl)
        simp only [List.setIfInBounds_toArray, List.set_cons_zero, List.set_cons_succ]
        refine takeD 9 35 (v := ?_) rfl rfl (by kernel_rfl) (by kernel_rfl) (by kernel_rfl) (fun _ _ _ h => h) (Or.inl ⟨by kernel_rfl, ?_⟩) hS ?_
        rotate_left 1
        · (intro w' hw'; (try dsimp only at hw'); go_simp; try with_reducible rfl)
        simp only [List.setIfInBounds_toArray, List.set_cons_zero, List.set_cons_succ]
        refine takeD 10 36 (v := ?_) rfl rfl (by kernel_rfl) (by kernel_rfl) (by kernel_rfl) (fun _ _ _ h => h) (Or.inl ⟨by kernel_rfl, ?_⟩) hS ?_
        rotate_left 1
        · (intro w' hw'; (try dsimp only at hw'); go_simp; try with_reducible rfl)
        simp only [List.setIfInBounds_toArray, List.set_cons_zero, List.set_cons_succ]
        refine takeD 11 37 (v := ?_) rfl rfl (by kernel_rfl) (by kernel_rfl) (by kernel_rfl) (fun _ _ _ h => h) (Or.inl ⟨by kernel_rfl, ?_⟩) hS ?_
        rotate_left 1
        · (intro w' hw'; (try dsimp only at hw'); go_simp; try with_reducible rfl)
        simp only [List.setIfInBounds_toArray, List.set_cons_zero, List.set_cons_succ]
        refine takeD 12 38 (v := ?_) rfl rfl (by kernel_rfl) (by kernel_rfl) (by kernel_rfl) (fun _ _ _ h => h) (Or.inl ⟨by kernel_rfl, ?_⟩) hS ?_
        rotate_left 1
        · (intro w' hw'; (try dsimp only at hw'); go_simp; try with_reducible rfl)
        simp only [List.setIfInBounds_toArray, List.set_cons_zero, List.set_cons_succ]
        refine takeD 13 39 (v := ?_) rfl rfl (by kernel_rfl) (by kernel_rfl) (by kernel_rfl) (fun _ _ _ h => h) (Or.inl ⟨by kernel_rfl, ?_⟩) hS ?_
        rotate_left 1
        · (intro w' hw'; (try dsimp only at hw'); go_simp; try with_reducible rfl)
        simp only [List.setIfInBounds_toArray, List.set_cons_zero, List.set_cons_succ]
        refine takeD 14 40 (v := ?_) rfl rfl (by kernel_rfl) (by kernel_rfl) (by kernel_rfl) (fun _ _ _ h => h) (Or.inl ⟨by kernel_rfl, ?_⟩) hS ?_
        rotate_left 1
        · (intro w' hw'; (try dsimp only at hw'); go_simp; try with_reducible rfl)
        simp only [List.setIfInBounds_toArray, List.set_cons_zero, List.set_cons_succ]
        refine takeD 15 41 (v := ?_) rfl rfl (by kernel_rfl) (by kernel_rfl) (by kernel_rfl) (fun _ _ _ h => h) (Or.inl ⟨by kernel_rfl, ?_⟩) hS ?_
        rotate_left 1
        · (intro w' hw'; (try dsimp only at hw'); go_simp; try with_reducible rfl)
        simp only [List.setIfInBounds_toArray, List.set_cons_zero, List.set_cons_succ]
        refine takeD 16 42 (v := ?_) rfl rfl (by kernel_rfl) (by kernel_rfl) (by kernel_rfl) (fun _ _ _ h => h) (Or.inl ⟨by kernel_rfl, ?_⟩) hS ?_
        rotate_left 1
        · (intro w' hw'; (try dsimp only at hw'); go_simp; try with_reducible rfl)
        simp only [List.setIfInBounds_toArray, List.set_cons_zero, List.set_cons_succ]
        refine takeD 17 43 (v := ?_) rfl rfl (by kernel_rfl) (by kernel_rfl) (by kernel_rfl) (fun _ _ _ h => h) (Or.inl ⟨by kernel_rfl, ?_⟩) hS ?_
        rotate_left 1
        · (intro w' hw'; (try dsimp only at hw'); go_simp; try with_reducible rfl)
        simp only [List.setIfInBounds_toArray, List.set_cons_zero, List.set_cons_succ]
        refine takeD 18 44 (v := ?_) rfl rfl (by kernel_rfl) (by kernel_rfl) (by kernel_rfl) (fun _ _ _ h => h) (Or.inl ⟨by kernel_rfl, ?_⟩) hS ?_
        rotate_left 1
        · (intro w' hw'; (try dsimp only at hw'); go_simp; try with_reducible rfl)
        simp only [List.setIfInBounds_toArray, List.set_cons_zero, List.set_cons_succ]
        refine takeD 19 45 (v := ?_) rfl rfl (by kernel_rfl) (by kernel_rfl) (by kernel_rfl) (fun _ _ _ h => h) (Or.inl ⟨by kernel_rfl, ?_⟩) hS ?_
        rotate_left 1
        · (intro w' hw'; (try dsimp only at hw'); go_simp; try with_reducible rfl)
        simp only [List.setIfInBounds_toArray, List.set_cons_zero, List.set_cons_succ]
        refine takeD 20 46 (v := ?_) rfl rfl (by kernel_rfl) (by kernel_rfl) (by kernel_rfl) (fun _ _ _ h => h) (Or.inl ⟨by kernel_rfl, ?_⟩) hS ?_
        rotate_left 1
        · (intro w' hw'; (try dsimp only at hw'); go_simp; try with_reducible rfl)
        simp only [List.setIfInBounds_toArray, List.set_cons_zero, List.set_cons_succ]
        refine wpAnyH_ready (rs := [21]) (by kernel_rfl) (by simp) ?_
        refine AllReadyH.cons rfl (fun K hK => ?_) AllReadyH.nil
        go_simp
        refine hK.out _ _ ?_ (fun hS1 => ?_)
        · exact ⟨(World.cell?_setCell_other _ _ _ _ (by simp <;> omega)).trans c3, (World.cell?_setCell_other _ _ _ _ (by simp <;> omega)).trans cx1, (World.cell?_setCell_other _ _ _ _ (by simp <;> omega)).trans cx, (World.cell?_setCell_other _ _ _ _ (by simp <;> omega)).trans cy1, (World.cell?_setCell_other _ _ _ _ (by simp <;> omega)).trans cy⟩
        clear hK K
        (try simp only [Act.put, List.setIfInBounds_toArray, List.set_cons_zero, List.set_cons_succ])
        refine wpAnyH_done (by kernel_rfl) ?_ _
        go_wp2
        go_roundw
        case rel => exact ⟨k + 1, by omega, by go_num, q1', q2', R⟩
        case measure => simp [intOf]; omega
      · have hkn : k = p1 := by omega
        subst hkn
        go_wp2
        go_ret
        refine ⟨b3, g3, rfl, ⟨hne3, cap3, _, ?_, q3, ?_⟩, m1, m2, k1.trans q1 (fun i hi => by simp at hi; rcases hi with rfl | rfl <;> (right; omega))⟩
        · rw [mix_length, HZ.out]; exact q2
        · refine ⟨by rw [mix_length, HZ.out]; exact HP1.out.symm, mix_lt _ wandNot_lt hwx.lt hwy.lt hw3.lt _, fun j => ?_⟩
          by_cases hj : j / 64 < zs.length
          · rw [wbit_mix _ (fun a b => a && !b) wandNot_bits _ _ _ _ _ hj, hwx.bit, hwy.bit, hw3.bit]
            by_cases h5 : j / 64 < k
            · rw [if_pos h5]
              cases decide (j < n1) <;> cases decide (j < n2) <;> cases f1 j <;> cases f2 j <;> simp
            · rw [if_neg h5]
              have h7 : decide (j < n1) = false ∨ decide (j < n2) = false := by
                have e1 := HP1.out; have e2 := HP2.out
                by_cases h : j < n1
                · right; simp; omega
                · left; simp; omega
              rcases h7 with h7 | h7 <;> rw [h7] <;> cases decide (j < n1) <;> cases decide (j < n2) <;> cases f1 j <;> cases f2 j <;> simp
          · have h8 : ¬ j < n1 := by have := HP1.out; have := HZ.out; omega
            rw [wbit_out (by rw [mix_length]; omega), decide_eq_false h8]; simp
  · have hleN : decide (p1 < p2) = false := by simp; omega
    go_enter Try.func55, Try.ntmps55
    go_wp2_with (go_at_call 75; refine (panicIfNull_c _ _).mono ?_; rintro e w' ⟨rfl, rfl⟩)
    refine (clone_c b1 g1 n1 f1 _ h1 hn1).mono ?_
    rintro e w1 ⟨b3, g3, rfl, h3, m1, m2, k1⟩
    have hx' := h1.kept k1 (by simp) (by simp)
    have hy' := h2.kept k1 (by simp) (by simp)
    go_wp2_with fail
    refine (wordCount_c b2 g2 n2 f2 _ hy' (by omega)).mono ?_
    rintro e w' ⟨rfl, rfl⟩
    rw [HP2.out]
    go_wp2_with fail
    refine (wordCount_c b1 g1 n1 f1 _ hx' (by omega)).mono ?_
    rintro e w' ⟨rfl, rfl⟩
    rw [HP1.out]
    go_wp2_with fail
    have l1 := h1.lt
    have l2 := h2.lt
    obtain ⟨hne3, cap3, zs, hh3, hr3, hw3⟩ := h3
    obtain ⟨hnex, capx, xs, hhx, hrx, hwx⟩ := hx'
    obtain ⟨hney, capy, ys, hhy, hry, hwy⟩ := hy'
    have hlx := hwx.length
    have hly := hwy.length
    have hlz := hw3.length
    rw [HP1.out] at hlx hlz
    rw [HP2.out] at hly
    have hcx := hrx.le
    have hcy := hry.le
    have hcz := hr3.le
    rw [hlx] at hhx hcx
    rw [hly] at hhy hcy
    rw [hlz] at hh3 hcz
    have HX := Lib.hid hlx; have HY := Lib.hid hly; have HZ := Lib.hid hlz
    clear hlx hly hlz
    have hp1 : p1 ≤ 313 := by have := HP1.out; omega
    have hp2 : p2 ≤ 313 := by have := HP2.out; omega
    have hst : Kept [b3, g3] w1 w1 ∧ Hdr w1 b3 n1 g3 p1 cap3 ∧ URow w1 g3 (mix andNot xs ys zs 0) cap3 := ⟨Kept.refl _ _, hh3, by rw [mix_zero]; exact hr3⟩
    go_loopw [6] (fun v wr => ∃ k : Nat, k ≤ p2 ∧ v = .int .i64 k ∧ Kept [b3, g3] w1 wr ∧ Hdr wr b3 n1 g3 p1 cap3 ∧ URow wr g3 (mix andNot xs ys zs k) cap3) (fun v _ => p2 - (intOf v).toNat)
    case atStart => exact ⟨0, Nat.zero_le _, rfl, hst⟩
    case round =>
      obtain ⟨k, hk, rfl, q1, q2, q3⟩ := hrel
      by_cases hkm : k < p2
      · have qx := hrx.kept q1 (by simp; omega)
        have qy := hry.kept q1 (by simp; omega)
        have px := hhx.kept q1 (by simp; omega)
        have py := hhy.kept q1 (by simp; omega)
        have cx := qx.cell k (by rw [HX.out]; omega)
        have cy := qy.cell k (by rw [HY.out]; omega)
        have c3 := q2.c1
        have cx1 := px.c1
        have cy1 := py.c1
        have hf := q3.free k
        obtain ⟨u, hu⟩ := q3.any k (by omega)
        have hop := (fun a b ha hb => bits_andNot_nat a b ha hb) (xs.getD k 0) (ys.getD k 0) (wgetD_lt hwx.lt k) (wgetD_lt hwy.lt k)
        have R := q3.set k (andNot (xs.getD k 0) (ys.getD k 0))
        rw [mix_step] at R
        have hne3' : b3 ≠ g3 := hne3
        have q2' := q2.other (o := k) hne3' (.int .u64 ((andNot (xs.getD k 0) (ys.getD k 0) : Nat) : Int))
        have q1' := q1.drew.setCell (p := ⟨g3, k, none⟩) (by left; simp) (.int .u64 ((andNot (xs.getD k 0) (ys.getD k 0) : Nat) : Int))
        rw [← hop] at R q2' q1'
        generalize xs.getD k 0 = X at *
        generalize ys.getD k 0 = Y at *
        have HO := Lib.hid hop; clear hop
        have i0 : (0 : Int) ≤ (k : Int) := by omega
        have i1 : (k : Int) < (p1 : Int) := by omega
        have i2 : (k : Int) < (p2 : Int) := by omega
        go_wp2
        refine wp_region_held_drew (S := fun w' => w'.cell? ⟨b3, 1, none⟩ = some (.slice (some ⟨g3, 0, none⟩) p1 cap3) ∧ w'.cell? ⟨b1, 1, none⟩ = some (.slice (some ⟨g1, 0, none⟩) p1 capx) ∧ w'.cell? ⟨g1, k, none⟩ = some (.int .u64 (X : Int)) ∧ w'.cell? ⟨b2, 1, none⟩ = some (.slice (some ⟨g2, 0, none⟩) p2 capy) ∧ w'.cell? ⟨g2, k, none⟩ = some (.int .u64 (Y : Int))) (by kernel_rfl) ⟨c3, cx1, cx, cy1, cy⟩ (fun hS => ?_)
        refine takeD 0 26 (v := ?_) rfl rfl (by kernel_rfl) (by kernel_rfl) (by kernel_rfl) (fun _ _ _ h => h) (Or.inl ⟨by kernel_rfl, ?_⟩) hS ?_
        rotate_left 1
        · (intro w' hw'; (try dsimp only at hw'); go_simp; try with_reducible rfl)
        simp only [List.setIfInBounds_toArray, List.set_cons_zero, List.set_cons_succ]
        refine takeD 1 27 (v := ?_) rfl rfl (by kernel_rfl) (by kernel_rfl) (by kernel_rfl) (fun _ _ _ h => h) (Or.inl ⟨by kernel_rfl, ?_⟩) hS ?_
        rotate_left 1
        · (intro w' hw'; (try dsimp only at hw'); go_simp; try with_reducible rfl)
        simp only [List.setIfInBounds_toArray, List.set_cons_zero, List.set_cons_succ]
        refine takeD 2 28 (v := ?_) rfl rfl (by kernel_rfl) (by kernel_rfl) (by kernel_rfl) (fun _ _ _ h => h) (Or.inl ⟨by kernel_rfl, ?_⟩) hS ?_
        rotate_left 1
        · (intro w' hw'; (try dsimp only at hw'); go_simp; try with_reducible rfl)
        simp only [List.setIfInBounds_toArray, List.set_cons_zero, List.set_cons_succ]
        refine takeD 3 29 (v := ?_) rfl rfl (by kernel_rfl) (by kernel_rfl) (by kernel_rfl) (fun _ _ _ h => h) (Or.inl ⟨by kernel_rfl, ?_⟩) hS ?_
        rotate_left 1
        · (intro w' hw'; (try dsimp only at hw'); go_simp; try with_reducible rfl)
        simp only [List.setIfInBounds_toArray, List.set_cons_zero, List.set_cons_succ]
        refine takeD 4 30 (v := ?_) rfl rfl (by kernel_rfl) (by kernel_rfl) (by kernel_rfl) (fun _ _ _ h => h) (Or.inl ⟨by kernel_rfl, ?_⟩) hS ?_
        rotate_left 1
        · (intro w' hw'; (try dsimp only at hw'); go_simp; try with_reducible rfl)
        simp only [List.setIfInBounds_toArray, List.set_cons_zero, List.set_cons_succ]
        refine takeD 5 31 (v := ?_) rfl rfl (by kernel_rfl) (by kernel_rfl) (by kernel_rfl) (fun _ _ _ h => h) (Or.inl ⟨by kernel_rfl, ?_⟩) hS ?_
        rotate_left 1
        · (intro w' hw'; (try dsimp only at hw'); go_simp; try with_reducible rfl)
        simp only [List.setIfInBounds_toArray, List.set_cons_zero, List.set_cons_succ]
        refine takeD 6 32 (v := ?_) rfl rfl (by kernel_rfl) (by kernel_rfl) (by kernel_rfl) (fun _ _ _ h => h) (Or.inl ⟨by kernel_rfl, ?_⟩) hS ?_
        rotate_left 1
        · (intro w' hw'; (try dsimp only at hw'); go_simp; try with_reducible rfl)
        simp only [List.setIfInBounds_toArray, List.set_cons_zero, List.set_cons_succ]
        refine takeD 7 33 (v := ?_) rfl rfl (by kernel_rfl) (by kernel_rfl) (by kernel_rfl) (fun _ _ _ h => h) (Or.inl ⟨by kernel_rfl, ?_⟩) hS ?_
        rotate_left 1
        · (intro w' hw'; (try dsimp only at hw'); go_simp; try with_reducible rfl)
        simp only [List.setIfInBounds_toArray, List.set_cons_zero, List.set_cons_succ]
        refine takeD 8 34 (v := ?_) rfl rfl (by kernel_rfl) (by kernel_rfl) (by kernel_rfl) (fun _ _ _ h => h) (Or.inl ⟨by kernel_rfl, ?_⟩) hS ?_
        rotate_left 1
        · (intro w' hw'; (try dsimp only at hw'); go_simp; try with_reducible rfl)
        simp only [List.setIfInBounds_toArray, List.set_cons_zero, List.set_cons_succ]
        refine takeD 9 35 (v := ?_) rfl rfl (by kernel_rfl) (by kernel_rfl) (by kernel_rfl) (fun _ _ _ h => h) (Or.inl ⟨by kernel_rfl, ?_⟩) hS ?_
        rotate_left 1
        · (intro w' hw'; (try dsimp only at hw'); go_simp; try with_reducible rfl)
        simp only [List.setIfInBounds_toArray, List.set_cons_zero, List.set_cons_succ]
        refine takeD 10 36 (v := ?_) rfl rfl (by kernel_rfl) (by kernel_rfl) (by kernel_rfl) (fun _ _ _ h => h) (Or.inl ⟨by kernel_rfl, ?_⟩) hS ?_
        rotate_left 1
        · (intro w' hw'; (try dsimp only at hw'); go_simp; try with_reducible rfl)
        simp only [List.setIfInBounds_toArray, List.set_cons_zero, List.set_cons_succ]
        refine takeD 11 37 (v := ?_) rfl rfl (by kernel_rfl) (by kernel_rfl) (by kernel_rfl) (fun _ _ _ h => h) (Or.inl ⟨by kernel_rfl, ?_⟩) hS ?_
        rotate_left 1
        · (intro w' hw'; (try dsimp only at hw'); go_simp; try with_reducible rfl)
        simp only [List.setIfInBounds_toArray, List.set_cons_zero, List.set_cons_succ]
        refine takeD 12 38 (v := ?_) rfl rfl (by kernel_rfl) (by kernel_rfl) (by kernel_rfl) (fun _ _ _ h => h) (Or.inl ⟨by kernel_rfl, ?_⟩) hS ?_
        rotate_left 1
        · (intro w' hw'; (try dsimp only at hw'); go_simp; try with_reducible rfl)
        simp only [List.setIfInBounds_toArray, List.set_cons_zero, List.set_cons_succ]
        refine takeD 13 39 (v := ?_) rfl rfl (by kernel_rfl) (by kernel_rfl) (by kernel_rfl) (fun _ _ _ h => h) (Or.inl ⟨by kernel_rfl, ?_⟩) hS ?_
        rotate_left 1
        · (intro w' hw'; (try dsimp only at hw'); go_simp; try with_reducible rfl)
        simp only [List.setIfInBounds_toArray, List.set_cons_zero, List.set_cons_succ]
        refine takeD 14 40 (v := ?_) rfl rfl (by kernel_rfl) (by kernel_rfl) (by kernel_rfl) (fun _ _ _ h => h) (Or.inl ⟨by kernel_rfl, ?_⟩) hS ?_
        rotate_left 1
        · (intro w' hw'; (try dsimp only at hw'); go_simp; try with_reducible rfl)
        simp only [List.setIfInBounds_toArray, List.set_cons_zero, List.set_cons_succ]
        refine takeD 15 41 (v := ?_) rfl rfl (by kernel_rfl) (by kernel_rfl) (by kernel_rfl) (fun _ _ _ h => h) (Or.inl ⟨by kernel_rfl, ?_⟩) hS ?_
        rotate_left 1
        · (intro w' hw'; (try dsimp only at hw'); go_simp; try with_reducible rfl)
        simp only [List.setIfInBounds_toArray, List.set_cons_zero, List.set_cons_succ]
        refine takeD 16 42 (v := ?_) rfl rfl (by kernel_rfl) (by kernel_rfl) (by kernel_rfl) (fun _ _ _ h => h) (Or.inl ⟨by kernel_rfl, ?_⟩) hS ?_
        rotate_left 1
        · (intro w' hw'; (try dsimp only at hw'); go_simp; try with_reducible rfl)
        simp only [List.setIfInBounds_toArray, List.set_cons_zero, List.set_cons_succ]
        refine takeD 17 43 (v := ?_) rfl rfl (by kernel_rfl) (by kernel_rfl) (by kernel_rfl) (fun _ _ _ h => h) (Or.inl ⟨by kernel_rfl, ?_⟩) hS ?_
        rotate_left 1
        · (intro w' hw'; (try dsimp only at hw'); go_simp; try with_reducible rfl)
        simp only [List.setIfInBounds_toArray, List.set_cons_zero, List.set_cons_succ]
        refine takeD 18 44 (v := ?_) rfl rfl (by kernel_rfl) (by kernel_rfl) (by kernel_rfl) (fun _ _ _ h => h) (Or.inl ⟨by kernel_rfl, ?_⟩) hS ?_
        rotate_left 1
        · (intro w' hw'; (try dsimp only at hw'); go_simp; try with_reducible rfl)
        simp only [List.setIfInBounds_toArray, List.set_cons_zero, List.set_cons_succ]
        refine takeD 19 45 (v := ?_) rfl rfl (by kernel_rfl) (by kernel_rfl) (by kernel_rfl) (fun _ _ _ h => h) (Or.inl ⟨by kernel_rfl, ?_⟩) hS ?_
        rotate_left 1
        · (intro w' hw'; (try dsimp only at hw'); go_simp; try with_reducible rfl)
        simp only [List.setIfInBounds_toArray, List.set_cons_zero, List.set_cons_succ]
        refine takeD 20 46 (v := ?_) rfl rfl (by kernel_rfl) (by kernel_rfl) (by kernel_rfl) (fun _ _ _ h => h) (Or.inl ⟨by kernel_rfl, ?_⟩) hS ?_
        rotate_left 1
        · (intro w' hw'; (try dsimp only at hw'); go_simp; try with_reducible rfl)
        simp only [List.setIfInBounds_toArray, List.set_cons_zero, List.set_cons_succ]
        refine wpAnyH_ready (rs := [21]) (by kernel_rfl) (by simp) ?_
        refine AllReadyH.cons rfl (fun K hK => ?_) AllReadyH.nil
        go_simp
        refine hK.out _ _ ?_ (fun hS1 => ?_)
        · exact ⟨(World.cell?_setCell_other _ _ _ _ (by simp <;> omega)).trans c3, (World.cell?_setCell_other _ _ _ _ (by simp <;> omega)).trans cx1, (World.cell?_setCell_other _ _ _ _ (by simp <;> omega)).trans cx, (World.cell?_setCell_other _ _ _ _ (by simp <;> omega)).trans cy1, (World.cell?_setCell_other _ _ _ _ (by simp <;> omega)).trans cy⟩
        clear hK K
        (try simp only [Act.put, List.setIfInBounds_toArray, List.set_cons_zero, List.set_cons_succ])
        refine wpAnyH_done (by kernel_rfl) ?_ _
        go_wp2
        go_roundw
        case rel => exact ⟨k + 1, by omega, by go_num, q1', q2', R⟩
        case measure => simp [intOf]; omega
      · have hkn : k = p2 := by omega
        subst hkn
        go_wp2
        go_ret
        refine ⟨b3, g3, rfl, ⟨hne3, cap3, _, ?_, q3, ?_⟩, m1, m2, k1.trans q1 (fun i hi => by simp at hi; rcases hi with rfl | rfl <;> (right; omega))⟩
        · rw [mix_length, HZ.out]; exact q2
        · refine ⟨by rw [mix_length, HZ.out]; exact HP1.out.symm, mix_lt _ wandNot_lt hwx.lt hwy.lt hw3.lt _, fun j => ?_⟩
          by_cases hj : j / 64 < zs.length
          · rw [wbit_mix _ (fun a b => a && !b) wandNot_bits _ _ _ _ _ hj, hwx.bit, hwy.bit, hw3.bit]
            by_cases h5 : j / 64 < k
            · rw [if_pos h5]
              cases decide (j < n1) <;> cases decide (j < n2) <;> cases f1 j <;> cases f2 j <;> simp
            · rw [if_neg h5]
              have h7 : decide (j < n1) = false ∨ decide (j < n2) = false := by
                have e1 := HP1.out; have e2 := HP2.out
                by_cases h : j < n1
                · right; simp; omega
                · left; simp; omega
              rcases h7 with h7 | h7 <;> rw [h7] <;> cases decide (j < n1) <;> cases decide (j < n2) <;> cases f1 j <;> cases f2 j <;> simp
          · have h8 : ¬ j < n1 := by have := HP1.out; have := HZ.out; omega
            rw [wbit_out (by rw [mix_length]; omega), decide_eq_false h8]; simp

end Go.Proofs.Ytbobddbndlckhaa

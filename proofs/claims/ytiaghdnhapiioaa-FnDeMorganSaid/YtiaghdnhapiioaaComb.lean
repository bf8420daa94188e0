/-
  The contracts of Union, Intersection and SymmetricDifference: a new set; for sets of at most 20000 bits.
-/
import Derived.Test.YtiaghdnhapiioaaTwo
import Derived.Test.YtiaghdnhapiioaaClone
namespace Go.Proofs.Ytiaghdnhapiioaa
set_option linter.unusedSimpArgs false
set_option linter.unusedVariables false
open Go.RowKit

set_option maxHeartbeats 2000000 in
set_option linter.unusedVariables false in
theorem UnionA_c (b1 g1 n1 b2 g2 n2 : Nat) (f1 f2 : Nat → Bool) (w : World) (h1 : BSet w b1 g1 n1 f1) (h2 : BSet w b2 g2 n2 f2) (hn1 : n1 ≤ 20000) (hn2 : n2 ≤ 20000) (hle : n1 ≤ n2) :
    Calls Try.prog 45 #[.pointer (some ⟨b1, 0, none⟩), .pointer (some ⟨b2, 0, none⟩)] w fun e w' => ∃ b3 g3, e = .returned (.pointer (some ⟨b3, 0, none⟩)) ∧ BSet w' b3 g3 n2 (fun j => (decide (j < n1) && f1 j) || (decide (j < n2) && f2 j)) ∧ w.heap.size ≤ b3 ∧ w.heap.size ≤ g3 ∧ Kept [] w w' := by
  have hs0 : w.cell? ⟨b1, 0, none⟩ = some (.int .u64 n1) := by obtain ⟨_, cap, ws, hh, _, _⟩ := h1; exact hh.c0
  have ht0 : w.cell? ⟨b2, 0, none⟩ = some (.int .u64 n2) := by obtain ⟨_, cap, ws, hh, _, _⟩ := h2; exact hh.c0
  go_enter Try.func45, Try.ntmps45
  go_wp2_with (first
    | (go_at_call 64; refine (panicIfNull_c _ _).mono ?_; rintro e w' ⟨rfl, rfl⟩)
    | (go_at_call 67; refine (sort_c b1 b2 n1 n2 _ hs0 ht0).mono ?_; rintro e w' ⟨rfl, kq, rfl⟩; rw [if_pos hle]))
  refine (clone_c b2 g2 n2 f2 _ (h2.drewN kq) hn2).mono ?_
  rintro e w1 ⟨b3, g3, rfl, h3, m1, m2, k1⟩
  have hx' := (h1.drewN kq).kept k1 (by simp) (by simp)
  have hy' := (h2.drewN kq).kept k1 (by simp) (by simp)
  have l1 := h1.lt
  have l2 := h2.lt
  obtain ⟨hne3, cap3, zs, hh3, hr3, hw3⟩ := h3
  obtain ⟨hnex, capx, xs, hhx, hrx, hwx⟩ := hx'
  obtain ⟨hney, capy, ys, hhy, hry, hwy⟩ := hy'
  have hlx := hwx.length
  have hly := hwy.length
  have hlz := hw3.length
  have cx1 := hhx.c1
  have mb : w.heap.size ≤ b3 := m1
  have mg : w.heap.size ≤ g3 := m2
  have kA : Kept [] w w1 := ((Kept.refl [] w).drewN kq).trans0 k1
  have hcx := hrx.le
  have hcy := hry.le
  have hcz := hr3.le
  obtain ⟨mx, hmx⟩ : ∃ m, xs.length = m := ⟨_, rfl⟩
  obtain ⟨my, hmy⟩ : ∃ m, ys.length = m := ⟨_, rfl⟩
  obtain ⟨mz, hmz⟩ : ∃ m, zs.length = m := ⟨_, rfl⟩
  rw [hmx] at hhx hlx cx1 hcx
  rw [hmy] at hhy hly hcy
  rw [hmz] at hh3 hlz hcz
  have hxy : mx ≤ my := by omega
  have hxz : mx ≤ mz := by omega
  have HX := Lib.hid hmx; have HY := Lib.hid hmy; have HZ := Lib.hid hmz
  have GX := Lib.hid hlx; have GY := Lib.hid hly; have GZ := Lib.hid hlz
  clear hmx hmy hmz hlx hly hlz hs0 ht0
  have hm313 : my ≤ 313 := by have := GY.out; omega
  have hst : Kept [b3, g3] w1 w1 ∧ Hdr w1 b3 n2 g3 mz cap3 ∧ URow w1 g3 (mix (fun a b => a ||| b) xs ys zs 0) cap3 := ⟨Kept.refl _ _, hh3, by rw [mix_zero]; exact hr3⟩
  go_wp2_with fail
  go_loopw [24] (fun v wr => ∃ k : Nat, k ≤ mx ∧ v = .int .i64 k ∧ Kept [b3, g3] w1 wr ∧ Hdr wr b3 n2 g3 mz cap3 ∧ URow wr g3 (mix (fun a b => a ||| b) xs ys zs k) cap3) (fun v _ => mx - (intOf v).toNat)
  case atStart => exact ⟨0, Nat.zero_le _, rfl, hst⟩
  case round =>
    obtain ⟨k, hk, rfl, q1, q2, q3⟩ := hrel
    by_cases hkm : k < mx
    · have qx := hrx.kept q1 (by simp; omega)
      have qy := hry.kept q1 (by simp; omega)
      have py := hhy.kept q1 (by simp; omega)
      have cx := qx.cell k (by rw [HX.out]; exact hkm)
      have cy := qy.cell k (by rw [HY.out]; omega)
      have c3 := q2.c1
      have cy1 := py.c1
      have hf := q3.free k
      obtain ⟨u, hu⟩ := q3.any k (by omega)
      have hy2 : k < my := by omega
      have hz2 : k < mz := by omega
      have hop := (fun a b ha hb => bits_or_nat a b ha hb) (xs.getD k 0) (ys.getD k 0) (wgetD_lt hwx.lt k) (wgetD_lt hwy.lt k)
      have R := q3.set k ((fun a b => a ||| b) (xs.getD k 0) (ys.getD k 0))
      rw [mix_step] at R
      have hne3' : b3 ≠ g3 := hne3
      have q2' := q2.other (o := k) hne3' (.int .u64 (((fun a b => a ||| b) (xs.getD k 0) (ys.getD k 0) : Nat) : Int))
      have q1' := q1.drew.setCell (p := ⟨g3, k, none⟩) (by left; simp) (.int .u64 (((fun a b => a ||| b) (xs.getD k 0) (ys.getD k 0) : Nat) : Int))
      rw [← hop] at R q2' q1'
      generalize xs.getD k 0 = X at *
      generalize ys.getD k 0 = Y at *
      have HO := Lib.hid hop; clear hop
      have i0 : (0 : Int) ≤ (k : Int) := by omega
      have i2 : (k : Int) < (my : Int) := by omega
      have i3 : (k : Int) < (mz : Int) := by omega
      go_wp2
      refine wp_region_held_drew (S := fun w' => w'.cell? ⟨b3, 1, none⟩ = some (.slice (some ⟨g3, 0, none⟩) mz cap3) ∧ w'.cell? ⟨b2, 1, none⟩ = some (.slice (some ⟨g2, 0, none⟩) my capy) ∧ w'.cell? ⟨g2, k, none⟩ = some (.int .u64 (Y : Int))) (by kernel_rfl) ⟨c3, cy1, cy⟩ (fun hS => ?_)
      refine takeD 0 29 (v := ?_) rfl rfl (by kernel_rfl) (by kernel_rfl) (by kernel_rfl) (fun _ _ _ h => h) (Or.inl ⟨by kernel_rfl, ?_⟩) hS ?_
      rotate_left 1
      · (intro w' hw'; (try dsimp only at hw'); go_simp; try with_reducible rfl)
      simp only [List.setIfInBounds_toArray, List.set_cons_zero, List.set_cons_succ]
      refine takeD 1 30 (v := ?_) rfl rfl (by kernel_rfl) (by kernel_rfl) (by kernel_rfl) (fun _ _ _ h => h) (Or.inl ⟨by kernel_rfl, ?_⟩) hS ?_
      rotate_left 1
      · (intro w' hw'; (try dsimp only at hw'); go_simp; try with_reducible rfl)
      simp only [List.setIfInBounds_toArray, List.set_cons_zero, List.set_cons_succ]
      refine takeD 2 31 (v := ?_) rfl rfl (by kernel_rfl) (by kernel_rfl) (by kernel_rfl) (fun _ _ _ h => h) (Or.inl ⟨by kernel_rfl, ?_⟩) hS ?_
      rotate_left 1
      · (intro w' hw'; (try dsimp only at hw'); go_simp; try with_reducible rfl)
      simp only [List.setIfInBounds_toArray, List.set_cons_zero, List.set_cons_succ]
      refine takeD 3 32 (v := ?_) rfl rfl (by kernel_rfl) (by kernel_rfl) (by kernel_rfl) (fun _ _ _ h => h) (Or.inl ⟨by kernel_rfl, ?_⟩) hS ?_
      rotate_left 1
      · (intro w' hw'; (try dsimp only at hw'); go_simp; try with_reducible rfl)
      simp only [List.setIfInBounds_toArray, List.set_cons_zero, List.set_cons_succ]
      refine takeD 4 33 (v := ?_) rfl rfl (by kernel_rfl) (by kernel_rfl) (by kernel_rfl) (fun _ _ _ h => h) (Or.inl ⟨by kernel_rfl, ?_⟩) hS ?_
      rotate_left 1
      · (intro w' hw'; (try dsimp only at hw'); go_simp; try with_reducible rfl)
      simp only [List.setIfInBounds_toArray, List.set_cons_zero, List.set_cons_succ]
      refine takeD 5 34 (v := ?_) rfl rfl (by kernel_rfl) (by kernel_rfl) (by kernel_rfl) (fun _ _ _ h => h) (Or.inl ⟨by kernel_rfl, ?_⟩) hS ?_
      rotate_left 1
      · (intro w' hw'; (try dsimp only at hw'); go_simp; try with_reducible rfl)
      simp only [List.setIfInBounds_toArray, List.set_cons_zero, List.set_cons_succ]
      refine takeD 6 35 (v := ?_) rfl rfl (by kernel_rfl) (by kernel_rfl) (by kernel_rfl) (fun _ _ _ h => h) (Or.inl ⟨by kernel_rfl, ?_⟩) hS ?_
      rotate_left 1
      · (intro w' hw'; (try dsimp only at hw'); go_simp; try with_reducible rfl)
      simp only [List.setIfInBounds_toArray, List.set_cons_zero, List.set_cons_succ]
      refine takeD 7 36 (v := ?_) rfl rfl (by kernel_rfl) (by kernel_rfl) (by kernel_rfl) (fun _ _ _ h => h) (Or.inl ⟨by kernel_rfl, ?_⟩) hS ?_
      rotate_left 1
      · (intro w' hw'; (try dsimp only at hw'); go_simp; try with_reducible rfl)
      simp only [List.setIfInBounds_toArray, List.set_cons_zero, List.set_cons_succ]
      refine takeD 8 37 (v := ?_) rfl rfl (by kernel_rfl) (by kernel_rfl) (by kernel_rfl) (fun _ _ _ h => h) (Or.inl ⟨by kernel_rfl, ?_⟩) hS ?_
      rotate_left 1
      · (intro w' hw'; (try dsimp only at hw'); go_simp; try with_reducible rfl)
      simp only [List.setIfInBounds_toArray, List.set_cons_zero, List.set_cons_succ]
      refine takeD 9 38 (v := ?_) rfl rfl (by kernel_rfl) (by kernel_rfl) (by kernel_rfl) (fun _ _ _ h => h) (Or.inl ⟨by kernel_rfl, ?_⟩) hS ?_
      rotate_left 1
      · (intro w' hw'; (try dsimp only at hw'); go_simp; try with_reducible rfl)
      simp only [List.setIfInBounds_toArray, List.set_cons_zero, List.set_cons_succ]
      refine takeD 10 39 (v := ?_) rfl rfl (by kernel_rfl) (by kernel_rfl) (by kernel_rfl) (fun _ _ _ h => h) (Or.inl ⟨by kernel_rfl, ?_⟩) hS ?_
      rotate_left 1
      · (intro w' hw'; (try dsimp only at hw'); go_simp; try with_reducible rfl)
      simp only [List.setIfInBounds_toArray, List.set_cons_zero, List.set_cons_succ]
      refine takeD 11 40 (v := ?_) rfl rfl (by kernel_rfl) (by kernel_rfl) (by kernel_rfl) (fun _ _ _ h => h) (Or.inl ⟨by kernel_rfl, ?_⟩) hS ?_
      rotate_left 1
      · (intro w' hw'; (try dsimp only at hw'); go_simp; try with_reducible rfl)
      simp only [List.setIfInBounds_toArray, List.set_cons_zero, List.set_cons_succ]
      refine takeD 12 41 (v := ?_) rfl rfl (by kernel_rfl) (by kernel_rfl) (by kernel_rfl) (fun _ _ _ h => h) (Or.inl ⟨by kernel_rfl, ?_⟩) hS ?_
      rotate_left 1
      · (intro w' hw'; (try dsimp only at hw'); go_simp; try with_reducible rfl)
      simp only [List.setIfInBounds_toArray, List.set_cons_zero, List.set_cons_succ]
      refine takeD 13 42 (v := ?_) rfl rfl (by kernel_rfl) (by kernel_rfl) (by kernel_rfl) (fun _ _ _ h => h) (Or.inl ⟨by kernel_rfl, ?_⟩) hS ?_
      rotate_left 1
      · (intro w' hw'; (try dsimp only at hw'); go_simp; try with_reducible rfl)
      simp only [List.setIfInBounds_toArray, List.set_cons_zero, List.set_cons_succ]
      refine takeD 14 43 (v := ?_) rfl rfl (by kernel_rfl) (by kernel_rfl) (by kernel_rfl) (fun _ _ _ h => h) (Or.inl ⟨by kernel_rfl, ?_⟩) hS ?_
      rotate_left 1
      · (intro w' hw'; (try dsimp only at hw'); go_simp; try with_reducible rfl)
      simp only [List.setIfInBounds_toArray, List.set_cons_zero, List.set_cons_succ]
      refine wpAnyH_ready (rs := [15]) (by kernel_rfl) (by simp) ?_
      refine AllReadyH.cons rfl (fun K hK => ?_) AllReadyH.nil
      go_simp
      refine hK.out _ _ ?_ (fun hS1 => ?_)
      · exact ⟨(World.cell?_setCell_other _ _ _ _ (by simp <;> omega)).trans c3, (World.cell?_setCell_other _ _ _ _ (by simp <;> omega)).trans cy1, (World.cell?_setCell_other _ _ _ _ (by simp <;> omega)).trans cy⟩
      clear hK K
      (try simp only [Act.put, List.setIfInBounds_toArray, List.set_cons_zero, List.set_cons_succ])
      refine wpAnyH_done (by kernel_rfl) ?_ _
      go_wp2
      go_roundw
      case rel => exact ⟨k + 1, by omega, by go_num, q1', q2', R⟩
      case measure => simp [intOf]; omega
    · have hkn : k = mx := by omega
      subst hkn
      go_wp2
      go_ret
      refine ⟨b3, g3, rfl, ⟨hne3, cap3, _, ?_, q3, ?_⟩, mb, mg, kA.trans q1 (fun i hi => by simp at hi; rcases hi with rfl | rfl <;> (right; omega))⟩
      · rw [mix_length, HZ.out]; exact q2
      · refine ⟨by rw [mix_length, HZ.out]; exact GZ.out, mix_lt _ wor_lt hwx.lt hwy.lt hw3.lt _, fun j => ?_⟩
        by_cases hj : j / 64 < zs.length
        · rw [wbit_mix _ (fun a b => a || b) wor_bits _ _ _ _ _ hj, hwx.bit, hwy.bit, hw3.bit]
          by_cases h5 : j / 64 < k
          · rw [if_pos h5]
            by_cases h6 : j < n1
            · rw [decide_eq_true h6, decide_eq_true (show j < n2 by omega)]; cases f1 j <;> cases f2 j <;> simp
            · rw [decide_eq_false h6]; cases decide (j < n2) <;> cases f1 j <;> cases f2 j <;> simp
          · rw [if_neg h5]
            have h7 : decide (j < n1) = false := by have := GX.out; simp; omega
            rw [h7]; cases decide (j < n2) <;> cases f1 j <;> cases f2 j <;> simp
        · have h8 : ¬ j < n2 := by have := GZ.out; have := HZ.out; omega
          rw [wbit_out (by rw [mix_length]; omega), decide_eq_false h8]; simp
set_option maxHeartbeats 2000000 in
set_option linter.unusedVariables false in
theorem UnionB_c (b1 g1 n1 b2 g2 n2 : Nat) (f1 f2 : Nat → Bool) (w : World) (h1 : BSet w b1 g1 n1 f1) (h2 : BSet w b2 g2 n2 f2) (hn1 : n1 ≤ 20000) (hn2 : n2 ≤ 20000) (hle : ¬ n1 ≤ n2) :
    Calls Try.prog 45 #[.pointer (some ⟨b1, 0, none⟩), .pointer (some ⟨b2, 0, none⟩)] w fun e w' => ∃ b3 g3, e = .returned (.pointer (some ⟨b3, 0, none⟩)) ∧ BSet w' b3 g3 n1 (fun j => (decide (j < n1) && f1 j) || (decide (j < n2) && f2 j)) ∧ w.heap.size ≤ b3 ∧ w.heap.size ≤ g3 ∧ Kept [] w w' := by
  have hs0 : w.cell? ⟨b1, 0, none⟩ = some (.int .u64 n1) := by obtain ⟨_, cap, ws, hh, _, _⟩ := h1; exact hh.c0
  have ht0 : w.cell? ⟨b2, 0, none⟩ = some (.int .u64 n2) := by obtain ⟨_, cap, ws, hh, _, _⟩ := h2; exact hh.c0
  go_enter Try.func45, Try.ntmps45
  go_wp2_with (first
    | (go_at_call 64; refine (panicIfNull_c _ _).mono ?_; rintro e w' ⟨rfl, rfl⟩)
    | (go_at_call 67; refine (sort_c b1 b2 n1 n2 _ hs0 ht0).mono ?_; rintro e w' ⟨rfl, kq, rfl⟩; rw [if_neg hle]))
  refine (clone_c b1 g1 n1 f1 _ (h1.drewN kq) hn1).mono ?_
  rintro e w1 ⟨b3, g3, rfl, h3, m1, m2, k1⟩
  have hx' := (h2.drewN kq).kept k1 (by simp) (by simp)
  have hy' := (h1.drewN kq).kept k1 (by simp) (by simp)
  have l1 := h2.lt
  have l2 := h1.lt
  obtain ⟨hne3, cap3, zs, hh3, hr3, hw3⟩ := h3
  obtain ⟨hnex, capx, xs, hhx, hrx, hwx⟩ := hx'
  obtain ⟨hney, capy, ys, hhy, hry, hwy⟩ := hy'
  have hlx := hwx.length
  have hly := hwy.length
  have hlz := hw3.length
  have cx1 := hhx.c1
  have mb : w.heap.size ≤ b3 := m1
  have mg : w.heap.size ≤ g3 := m2
  have kA : Kept [] w w1 := ((Kept.refl [] w).drewN kq).trans0 k1
  have hcx := hrx.le
  have hcy := hry.le
  have hcz := hr3.le
  obtain ⟨mx, hmx⟩ : ∃ m, xs.length = m := ⟨_, rfl⟩
  obtain ⟨my, hmy⟩ : ∃ m, ys.length = m := ⟨_, rfl⟩
  obtain ⟨mz, hmz⟩ : ∃ m, zs.length = m := ⟨_, rfl⟩
  rw [hmx] at hhx hlx cx1 hcx
  rw [hmy] at hhy hly hcy
  rw [hmz] at hh3 hlz hcz
  have hxy : mx ≤ my := by omega
  have hxz : mx ≤ mz := by omega
  have HX := Lib.hid hmx; have HY := Lib.hid hmy; have HZ := Lib.hid hmz
  have GX := Lib.hid hlx; have GY := Lib.hid hly; have GZ := Lib.hid hlz
  clear hmx hmy hmz hlx hly hlz hs0 ht0
  have hm313 : my ≤ 313 := by have := GY.out; omega
  have hst : Kept [b3, g3] w1 w1 ∧ Hdr w1 b3 n1 g3 mz cap3 ∧ URow w1 g3 (mix (fun a b => a ||| b) xs ys zs 0) cap3 := ⟨Kept.refl _ _, hh3, by rw [mix_zero]; exact hr3⟩
  go_wp2_with fail
  go_loopw [24] (fun v wr => ∃ k : Nat, k ≤ mx ∧ v = .int .i64 k ∧ Kept [b3, g3] w1 wr ∧ Hdr wr b3 n1 g3 mz cap3 ∧ URow wr g3 (mix (fun a b => a ||| b) xs ys zs k) cap3) (fun v _ => mx - (intOf v).toNat)
  case atStart => exact ⟨0, Nat.zero_le _, rfl, hst⟩
  case round =>
    obtain ⟨k, hk, rfl, q1, q2, q3⟩ := hrel
    by_cases hkm : k < mx
    · have qx := hrx.kept q1 (by simp; omega)
      have qy := hry.kept q1 (by simp; omega)
      have py := hhy.kept q1 (by simp; omega)
      have cx := qx.cell k (by rw [HX.out]; exact hkm)
      have cy := qy.cell k (by rw [HY.out]; omega)
      have c3 := q2.c1
      have cy1 := py.c1
      have hf := q3.free k
      obtain ⟨u, hu⟩ := q3.any k (by omega)
      have hy2 : k < my := by omega
      have hz2 : k < mz := by omega
      have hop := (fun a b ha hb => bits_or_nat a b ha hb) (xs.getD k 0) (ys.getD k 0) (wgetD_lt hwx.lt k) (wgetD_lt hwy.lt k)
      have R := q3.set k ((fun a b => a ||| b) (xs.getD k 0) (ys.getD k 0))
      rw [mix_step] at R
      have hne3' : b3 ≠ g3 := hne3
      have q2' := q2.other (o := k) hne3' (.int .u64 (((fun a b => a ||| b) (xs.getD k 0) (ys.getD k 0) : Nat) : Int))
      have q1' := q1.drew.setCell (p := ⟨g3, k, none⟩) (by left; simp) (.int .u64 (((fun a b => a ||| b) (xs.getD k 0) (ys.getD k 0) : Nat) : Int))
      rw [← hop] at R q2' q1'
      generalize xs.getD k 0 = X at *
      generalize ys.getD k 0 = Y at *
      have HO := Lib.hid hop; clear hop
      have i0 : (0 : Int) ≤ (k : Int) := by omega
      have i2 : (k : Int) < (my : Int) := by omega
      have i3 : (k : Int) < (mz : Int) := by omega
      go_wp2
      refine wp_region_held_drew (S := fun w' => w'.cell? ⟨b3, 1, none⟩ = some (.slice (some ⟨g3, 0, none⟩) mz cap3) ∧ w'.cell? ⟨b1, 1, none⟩ = some (.slice (some ⟨g1, 0, none⟩) my capy) ∧ w'.cell? ⟨g1, k, none⟩ = some (.int .u64 (Y : Int))) (by kernel_rfl) ⟨c3, cy1, cy⟩ (fun hS => ?_)
      refine takeD 0 29 (v := ?_) rfl rfl (by kernel_rfl) (by kernel_rfl) (by kernel_rfl) (fun _ _ _ h => h) (Or.inl ⟨by kernel_rfl, ?_⟩) hS ?_
      rotate_left 1
      · (intro w' hw'; (try dsimp only at hw'); go_simp; try with_reducible rfl)
      simp only [List.setIfInBounds_toArray, List.set_cons_zero, List.set_cons_succ]
      refine takeD 1 30 (v := ?_) rfl rfl (by kernel_rfl) (by kernel_rfl) (by kernel_rfl) (fun _ _ _ h => h) (Or.inl ⟨by kernel_rfl, ?_⟩) hS ?_
      rotate_left 1
      · (intro w' hw'; (try dsimp only at hw'); go_simp; try with_reducible rfl)
      simp only [List.setIfInBounds_toArray, List.set_cons_zero, List.set_cons_succ]
      refine takeD 2 31 (v := ?_) rfl rfl (by kernel_rfl) (by kernel_rfl) (by kernel_rfl) (fun _ _ _ h => h) (Or.inl ⟨by kernel_rfl, ?_⟩) hS ?_
      rotate_left 1
      · (intro w' hw'; (try dsimp only at hw'); go_simp; try with_reducible rfl)
      simp only [List.setIfInBounds_toArray, List.set_cons_zero, List.set_cons_succ]
      refine takeD 3 32 (v := ?_) rfl rfl (by kernel_rfl) (by kernel_rfl) (by kernel_rfl) (fun _ _ _ h => h) (Or.inl ⟨by kernel_rfl, ?_⟩) hS ?_
      rotate_left 1
      · (intro w' hw'; (try dsimp only at hw'); go_simp; try with_reducible rfl)
      simp only [List.setIfInBounds_toArray, List.set_cons_zero, List.set_cons_succ]
      refine takeD 4 33 (v := ?_) rfl rfl (by kernel_rfl) (by kernel_rfl) (by kernel_rfl) (fun _ _ _ h => h) (Or.inl ⟨by kernel_rfl, ?_⟩) hS ?_
      rotate_left 1
      · (intro w' hw'; (try dsimp only at hw'); go_simp; try with_reducible rfl)
      simp only [List.setIfInBounds_toArray, List.set_cons_zero, List.set_cons_succ]
      refine takeD 5 34 (v := ?_) rfl rfl (by kernel_rfl) (by kernel_rfl) (by kernel_rfl) (fun _ _ _ h => h) (Or.inl ⟨by kernel_rfl, ?_⟩) hS ?_
      rotate_left 1
      · (intro w' hw'; (try dsimp only at hw'); go_simp; try with_reducible rfl)
      simp only [List.setIfInBounds_toArray, List.set_cons_zero, List.set_cons_succ]
      refine takeD 6 35 (v := ?_) rfl rfl (by kernel_rfl) (by kernel_rfl) (by kernel_rfl) (fun _ _ _ h => h) (Or.inl ⟨by kernel_rfl, ?_⟩) hS ?_
      rotate_left 1
      · (intro w' hw'; (try dsimp only at hw'); go_simp; try with_reducible rfl)
      simp only [List.setIfInBounds_toArray, List.set_cons_zero, List.set_cons_succ]
      refine takeD 7 36 (v := ?_) rfl rfl (by kernel_rfl) (by kernel_rfl) (by kernel_rfl) (fun _ _ _ h => h) (Or.inl ⟨by kernel_rfl, ?_⟩) hS ?_
      rotate_left 1
      · (intro w' hw'; (try dsimp only at hw'); go_simp; try with_reducible rfl)
      simp only [List.setIfInBounds_toArray, List.set_cons_zero, List.set_cons_succ]
      refine takeD 8 37 (v := ?_) rfl rfl (by kernel_rfl) (by kernel_rfl) (by kernel_rfl) (fun _ _ _ h => h) (Or.inl ⟨by kernel_rfl, ?_⟩) hS ?_
      rotate_left 1
      · (intro w' hw'; (try dsimp only at hw'); go_simp; try with_reducible rfl)
      simp only [List.setIfInBounds_toArray, List.set_cons_zero, List.set_cons_succ]
      refine takeD 9 38 (v := ?_) rfl rfl (by kernel_rfl) (by kernel_rfl) (by kernel_rfl) (fun _ _ _ h => h) (Or.inl ⟨by kernel_rfl, ?_⟩) hS ?_
      rotate_left 1
      · (intro w' hw'; (try dsimp only at hw'); go_simp; try with_reducible rfl)
      simp only [List.setIfInBounds_toArray, List.set_cons_zero, List.set_cons_succ]
      refine takeD 10 39 (v := ?_) rfl rfl (by kernel_rfl) (by kernel_rfl) (by kernel_rfl) (fun _ _ _ h => h) (Or.inl ⟨by kernel_rfl, ?_⟩) hS ?_
      rotate_left 1
      · (intro w' hw'; (try dsimp only at hw'); go_simp; try with_reducible rfl)
      simp only [List.setIfInBounds_toArray, List.set_cons_zero, List.set_cons_succ]
      refine takeD 11 40 (v := ?_) rfl rfl (by kernel_rfl) (by kernel_rfl) (by kernel_rfl) (fun _ _ _ h => h) (Or.inl ⟨by kernel_rfl, ?_⟩) hS ?_
      rotate_left 1
      · (intro w' hw'; (try dsimp only at hw'); go_simp; try with_reducible rfl)
      simp only [List.setIfInBounds_toArray, List.set_cons_zero, List.set_cons_succ]
      refine takeD 12 41 (v := ?_) rfl rfl (by kernel_rfl) (by kernel_rfl) (by kernel_rfl) (fun _ _ _ h => h) (Or.inl ⟨by kernel_rfl, ?_⟩) hS ?_
      rotate_left 1
      · (intro w' hw'; (try dsimp only at hw'); go_simp; try with_reducible rfl)
      simp only [List.setIfInBounds_toArray, List.set_cons_zero, List.set_cons_succ]
      refine takeD 13 42 (v := ?_) rfl rfl (by kernel_rfl) (by kernel_rfl) (by kernel_rfl) (fun _ _ _ h => h) (Or.inl ⟨by kernel_rfl, ?_⟩) hS ?_
      rotate_left 1
      · (intro w' hw'; (try dsimp only at hw'); go_simp; try with_reducible rfl)
      simp only [List.setIfInBounds_toArray, List.set_cons_zero, List.set_cons_succ]
      refine takeD 14 43 (v := ?_) rfl rfl (by kernel_rfl) (by kernel_rfl) (by kernel_rfl) (fun _ _ _ h => h) (Or.inl ⟨by kernel_rfl, ?_⟩) hS ?_
      rotate_left 1
      · (intro w' hw'; (try dsimp only at hw'); go_simp; try with_reducible rfl)
      simp only [List.setIfInBounds_toArray, List.set_cons_zero, List.set_cons_succ]
      refine wpAnyH_ready (rs := [15]) (by kernel_rfl) (by simp) ?_
      refine AllReadyH.cons rfl (fun K hK => ?_) AllReadyH.nil
      go_simp
      refine hK.out _ _ ?_ (fun hS1 => ?_)
      · exact ⟨(World.cell?_setCell_other _ _ _ _ (by simp <;> omega)).trans c3, (World.cell?_setCell_other _ _ _ _ (by simp <;> omega)).trans cy1, (World.cell?_setCell_other _ _ _ _ (by simp <;> omega)).trans cy⟩
      clear hK K
      (try simp only [Act.put, List.setIfInBounds_toArray, List.set_cons_zero, List.set_cons_succ])
      refine wpAnyH_done (by kernel_rfl) ?_ _
      go_wp2
      go_roundw
      case rel => exact ⟨k + 1, by omega, by go_num, q1', q2', R⟩
      case measure => simp [intOf]; omega
    · have hkn : k = mx := by omega
      subst hkn
      go_wp2
      go_ret
      refine ⟨b3, g3, rfl, ⟨hne3, cap3, _, ?_, q3, ?_⟩, mb, mg, kA.trans q1 (fun i hi => by simp at hi; rcases hi with rfl | rfl <;> (right; omega))⟩
      · rw [mix_length, HZ.out]; exact q2
      · refine ⟨by rw [mix_length, HZ.out]; exact GZ.out, mix_lt _ wor_lt hwx.lt hwy.lt hw3.lt _, fun j => ?_⟩
        by_cases hj : j / 64 < zs.length
        · rw [wbit_mix _ (fun a b => a || b) wor_bits _ _ _ _ _ hj, hwx.bit, hwy.bit, hw3.bit]
          by_cases h5 : j / 64 < k
          · rw [if_pos h5]
            by_cases h6 : j < n2
            · rw [decide_eq_true h6, decide_eq_true (show j < n1 by omega)]; cases f1 j <;> cases f2 j <;> simp
            · rw [decide_eq_false h6]; cases decide (j < n1) <;> cases f1 j <;> cases f2 j <;> simp
          · rw [if_neg h5]
            have h7 : decide (j < n2) = false := by have := GX.out; simp; omega
            rw [h7]; cases decide (j < n1) <;> cases f1 j <;> cases f2 j <;> simp
        · have h8 : ¬ j < n1 := by have := GZ.out; have := HZ.out; omega
          rw [wbit_out (by rw [mix_length]; omega), decide_eq_false h8]; simp
theorem union_c (b1 g1 n1 b2 g2 n2 : Nat) (f1 f2 : Nat → Bool) (w : World) (h1 : BSet w b1 g1 n1 f1) (h2 : BSet w b2 g2 n2 f2) (hn1 : n1 ≤ 20000) (hn2 : n2 ≤ 20000) :
    Calls Try.prog 45 #[.pointer (some ⟨b1, 0, none⟩), .pointer (some ⟨b2, 0, none⟩)] w fun e w' => ∃ b3 g3, e = .returned (.pointer (some ⟨b3, 0, none⟩)) ∧ BSet w' b3 g3 (max n1 n2) (fun j => (decide (j < n1) && f1 j) || (decide (j < n2) && f2 j)) ∧ w.heap.size ≤ b3 ∧ w.heap.size ≤ g3 ∧ Kept [] w w' := by
  by_cases hle : n1 ≤ n2
  · rw [show max n1 n2 = n2 by omega]; exact UnionA_c b1 g1 n1 b2 g2 n2 f1 f2 w h1 h2 hn1 hn2 hle
  · rw [show max n1 n2 = n1 by omega]; exact UnionB_c b1 g1 n1 b2 g2 n2 f1 f2 w h1 h2 hn1 hn2 hle


set_option maxHeartbeats 2000000 in
set_option linter.unusedVariables false in
theorem IntersectionA_c (b1 g1 n1 b2 g2 n2 : Nat) (f1 f2 : Nat → Bool) (w : World) (h1 : BSet w b1 g1 n1 f1) (h2 : BSet w b2 g2 n2 f2) (hn1 : n1 ≤ 20000) (hn2 : n2 ≤ 20000) (hle : n1 ≤ n2) :
    Calls Try.prog 46 #[.pointer (some ⟨b1, 0, none⟩), .pointer (some ⟨b2, 0, none⟩)] w fun e w' => ∃ b3 g3, e = .returned (.pointer (some ⟨b3, 0, none⟩)) ∧ BSet w' b3 g3 n1 (fun j => (decide (j < n1) && f1 j) && (decide (j < n2) && f2 j)) ∧ w.heap.size ≤ b3 ∧ w.heap.size ≤ g3 ∧ Kept [] w w' := by
  have hs0 : w.cell? ⟨b1, 0, none⟩ = some (.int .u64 n1) := by obtain ⟨_, cap, ws, hh, _, _⟩ := h1; exact hh.c0
  have ht0 : w.cell? ⟨b2, 0, none⟩ = some (.int .u64 n2) := by obtain ⟨_, cap, ws, hh, _, _⟩ := h2; exact hh.c0
  go_enter Try.func46, Try.ntmps46
  go_wp2_with (first
    | (go_at_call 64; refine (panicIfNull_c _ _).mono ?_; rintro e w' ⟨rfl, rfl⟩)
    | (go_at_call 67; refine (sort_c b1 b2 n1 n2 _ hs0 ht0).mono ?_; rintro e w' ⟨rfl, kq, rfl⟩; rw [if_pos hle]))
  refine (new_c n1 _ hn1).mono ?_
  rintro e w1 ⟨b3, g3, rfl, h3, m1, m2, k1⟩
  have hx' := (h1.drewN kq).kept k1 (by simp) (by simp)
  have hy' := (h2.drewN kq).kept k1 (by simp) (by simp)
  have l1 := h1.lt
  have l2 := h2.lt
  obtain ⟨hne3, cap3, zs, hh3, hr3, hw3⟩ := h3
  obtain ⟨hnex, capx, xs, hhx, hrx, hwx⟩ := hx'
  obtain ⟨hney, capy, ys, hhy, hry, hwy⟩ := hy'
  have hlx := hwx.length
  have hly := hwy.length
  have hlz := hw3.length
  have cx1 := hhx.c1
  have mb : w.heap.size ≤ b3 := m1
  have mg : w.heap.size ≤ g3 := m2
  have kA : Kept [] w w1 := ((Kept.refl [] w).drewN kq).trans0 k1
  have hcx := hrx.le
  have hcy := hry.le
  have hcz := hr3.le
  obtain ⟨mx, hmx⟩ : ∃ m, xs.length = m := ⟨_, rfl⟩
  obtain ⟨my, hmy⟩ : ∃ m, ys.length = m := ⟨_, rfl⟩
  obtain ⟨mz, hmz⟩ : ∃ m, zs.length = m := ⟨_, rfl⟩
  rw [hmx] at hhx hlx cx1 hcx
  rw [hmy] at hhy hly hcy
  rw [hmz] at hh3 hlz hcz
  have hxy : mx ≤ my := by omega
  have hxz : mx ≤ mz := by omega
  have HX := Lib.hid hmx; have HY := Lib.hid hmy; have HZ := Lib.hid hmz
  have GX := Lib.hid hlx; have GY := Lib.hid hly; have GZ := Lib.hid hlz
  clear hmx hmy hmz hlx hly hlz hs0 ht0
  have hm313 : my ≤ 313 := by have := GY.out; omega
  have hst : Kept [b3, g3] w1 w1 ∧ Hdr w1 b3 n1 g3 mz cap3 ∧ URow w1 g3 (mix (fun a b => a &&& b) xs ys zs 0) cap3 := ⟨Kept.refl _ _, hh3, by rw [mix_zero]; exact hr3⟩
  go_wp2_with fail
  go_loopw [27] (fun v wr => ∃ k : Nat, k ≤ mx ∧ v = .int .i64 k ∧ Kept [b3, g3] w1 wr ∧ Hdr wr b3 n1 g3 mz cap3 ∧ URow wr g3 (mix (fun a b => a &&& b) xs ys zs k) cap3) (fun v _ => mx - (intOf v).toNat)
  case atStart => exact ⟨0, Nat.zero_le _, rfl, hst⟩
  case round =>
    obtain ⟨k, hk, rfl, q1, q2, q3⟩ := hrel
    by_cases hkm : k < mx
    · have qx := hrx.kept q1 (by simp; omega)
      have qy := hry.kept q1 (by simp; omega)
      have py := hhy.kept q1 (by simp; omega)
      have cx := qx.cell k (by rw [HX.out]; exact hkm)
      have cy := qy.cell k (by rw [HY.out]; omega)
      have c3 := q2.c1
      have cy1 := py.c1
      have hf := q3.free k
      obtain ⟨u, hu⟩ := q3.any k (by omega)
      have hy2 : k < my := by omega
      have hz2 : k < mz := by omega
      have hop := (fun a b ha hb => bits_and_nat a b ha hb) (xs.getD k 0) (ys.getD k 0) (wgetD_lt hwx.lt k) (wgetD_lt hwy.lt k)
      have R := q3.set k ((fun a b => a &&& b) (xs.getD k 0) (ys.getD k 0))
      rw [mix_step] at R
      have hne3' : b3 ≠ g3 := hne3
      have q2' := q2.other (o := k) hne3' (.int .u64 (((fun a b => a &&& b) (xs.getD k 0) (ys.getD k 0) : Nat) : Int))
      have q1' := q1.drew.setCell (p := ⟨g3, k, none⟩) (by left; simp) (.int .u64 (((fun a b => a &&& b) (xs.getD k 0) (ys.getD k 0) : Nat) : Int))
      rw [← hop] at R q2' q1'
      generalize xs.getD k 0 = X at *
      generalize ys.getD k 0 = Y at *
      have HO := Lib.hid hop; clear hop
      have i0 : (0 : Int) ≤ (k : Int) := by omega
      have i2 : (k : Int) < (my : Int) := by omega
      have i3 : (k : Int) < (mz : Int) := by omega
      go_wp2
      refine wp_region_held_drew (S := fun w' => w'.cell? ⟨b3, 1, none⟩ = some (.slice (some ⟨g3, 0, none⟩) mz cap3) ∧ w'.cell? ⟨b2, 1, none⟩ = some (.slice (some ⟨g2, 0, none⟩) my capy) ∧ w'.cell? ⟨g2, k, none⟩ = some (.int .u64 (Y : Int))) (by kernel_rfl) ⟨c3, cy1, cy⟩ (fun hS => ?_)
      refine takeD 0 32 (v := ?_) rfl rfl (by kernel_rfl) (by kernel_rfl) (by kernel_rfl) (fun _ _ _ h => h) (Or.inl ⟨by kernel_rfl, ?_⟩) hS ?_
      rotate_left 1
      · (intro w' hw'; (try dsimp only at hw'); go_simp; try with_reducible rfl)
      simp only [List.setIfInBounds_toArray, List.set_cons_zero, List.set_cons_succ]
      refine takeD 1 33 (v := ?_) rfl rfl (by kernel_rfl) (by kernel_rfl) (by kernel_rfl) (fun _ _ _ h => h) (Or.inl ⟨by kernel_rfl, ?_⟩) hS ?_
      rotate_left 1
      · (intro w' hw'; (try dsimp only at hw'); go_simp; try with_reducible rfl)
      simp only [List.setIfInBounds_toArray, List.set_cons_zero, List.set_cons_succ]
      refine takeD 2 34 (v := ?_) rfl rfl (by kernel_rfl) (by kernel_rfl) (by kernel_rfl) (fun _ _ _ h => h) (Or.inl ⟨by kernel_rfl, ?_⟩) hS ?_
      rotate_left 1
      · (intro w' hw'; (try dsimp only at hw'); go_simp; try with_reducible rfl)
      simp only [List.setIfInBounds_toArray, List.set_cons_zero, List.set_cons_succ]
      refine takeD 3 35 (v := ?_) rfl rfl (by kernel_rfl) (by kernel_rfl) (by kernel_rfl) (fun _ _ _ h => h) (Or.inl ⟨by kernel_rfl, ?_⟩) hS ?_
      rotate_left 1
      · (intro w' hw'; (try dsimp only at hw'); go_simp; try with_reducible rfl)
      simp only [List.setIfInBounds_toArray, List.set_cons_zero, List.set_cons_succ]
      refine takeD 4 36 (v := ?_) rfl rfl (by kernel_rfl) (by kernel_rfl) (by kernel_rfl) (fun _ _ _ h => h) (Or.inl ⟨by kernel_rfl, ?_⟩) hS ?_
      rotate_left 1
      · (intro w' hw'; (try dsimp only at hw'); go_simp; try with_reducible rfl)
      simp only [List.setIfInBounds_toArray, List.set_cons_zero, List.set_cons_succ]
      refine takeD 5 37 (v := ?_) rfl rfl (by kernel_rfl) (by kernel_rfl) (by kernel_rfl) (fun _ _ _ h => h) (Or.inl ⟨by kernel_rfl, ?_⟩) hS ?_
      rotate_left 1
      · (intro w' hw'; (try dsimp only at hw'); go_simp; try with_reducible rfl)
      simp only [List.setIfInBounds_toArray, List.set_cons_zero, List.set_cons_succ]
      refine takeD 6 38 (v := ?_) rfl rfl (by kernel_rfl) (by kernel_rfl) (by kernel_rfl) (fun _ _ _ h => h) (Or.inl ⟨by kernel_rfl, ?_⟩) hS ?_
      rotate_left 1
      · (intro w' hw'; (try dsimp only at hw'); go_simp; try with_reducible rfl)
      simp only [List.setIfInBounds_toArray, List.set_cons_zero, List.set_cons_succ]
      refine takeD 7 39 (v := ?_) rfl rfl (by kernel_rfl) (by kernel_rfl) (by kernel_rfl) (fun _ _ _ h => h) (Or.inl ⟨by kernel_rfl, ?_⟩) hS ?_
      rotate_left 1
      · (intro w' hw'; (try dsimp only at hw'); go_simp; try with_reducible rfl)
      simp only [List.setIfInBounds_toArray, List.set_cons_zero, List.set_cons_succ]
      refine takeD 8 40 (v := ?_) rfl rfl (by kernel_rfl) (by kernel_rfl) (by kernel_rfl) (fun _ _ _ h => h) (Or.inl ⟨by kernel_rfl, ?_⟩) hS ?_
      rotate_left 1
      · (intro w' hw'; (try dsimp only at hw'); go_simp; try with_reducible rfl)
      simp only [List.setIfInBounds_toArray, List.set_cons_zero, List.set_cons_succ]
      refine takeD 9 41 (v := ?_) rfl rfl (by kernel_rfl) (by kernel_rfl) (by kernel_rfl) (fun _ _ _ h => h) (Or.inl ⟨by kernel_rfl, ?_⟩) hS ?_
      rotate_left 1
      · (intro w' hw'; (try dsimp only at hw'); go_simp; try with_reducible rfl)
      simp only [List.setIfInBounds_toArray, List.set_cons_zero, List.set_cons_succ]
      refine takeD 10 42 (v := ?_) rfl rfl (by kernel_rfl) (by kernel_rfl) (by kernel_rfl) (fun _ _ _ h => h) (Or.inl ⟨by kernel_rfl, ?_⟩) hS ?_
      rotate_left 1
      · (intro w' hw'; (try dsimp only at hw'); go_simp; try with_reducible rfl)
      simp only [List.setIfInBounds_toArray, List.set_cons_zero, List.set_cons_succ]
      refine takeD 11 43 (v := ?_) rfl rfl (by kernel_rfl) (by kernel_rfl) (by kernel_rfl) (fun _ _ _ h => h) (Or.inl ⟨by kernel_rfl, ?_⟩) hS ?_
      rotate_left 1
      · (intro w' hw'; (try dsimp only at hw'); go_simp; try with_reducible rfl)
      simp only [List.setIfInBounds_toArray, List.set_cons_zero, List.set_cons_succ]
      refine takeD 12 44 (v := ?_) rfl rfl (by kernel_rfl) (by kernel_rfl) (by kernel_rfl) (fun _ _ _ h => h) (Or.inl ⟨by kernel_rfl, ?_⟩) hS ?_
      rotate_left 1
      · (intro w' hw'; (try dsimp only at hw'); go_simp; try with_reducible rfl)
      simp only [List.setIfInBounds_toArray, List.set_cons_zero, List.set_cons_succ]
      refine takeD 13 45 (v := ?_) rfl rfl (by kernel_rfl) (by kernel_rfl) (by kernel_rfl) (fun _ _ _ h => h) (Or.inl ⟨by kernel_rfl, ?_⟩) hS ?_
      rotate_left 1
      · (intro w' hw'; (try dsimp only at hw'); go_simp; try with_reducible rfl)
      simp only [List.setIfInBounds_toArray, List.set_cons_zero, List.set_cons_succ]
      refine takeD 14 46 (v := ?_) rfl rfl (by kernel_rfl) (by kernel_rfl) (by kernel_rfl) (fun _ _ _ h => h) (Or.inl ⟨by kernel_rfl, ?_⟩) hS ?_
      rotate_left 1
      · (intro w' hw'; (try dsimp only at hw'); go_simp; try with_reducible rfl)
      simp only [List.setIfInBounds_toArray, List.set_cons_zero, List.set_cons_succ]
      refine wpAnyH_ready (rs := [15]) (by kernel_rfl) (by simp) ?_
      refine AllReadyH.cons rfl (fun K hK => ?_) AllReadyH.nil
      go_simp
      refine hK.out _ _ ?_ (fun hS1 => ?_)
      · exact ⟨(World.cell?_setCell_other _ _ _ _ (by simp <;> omega)).trans c3, (World.cell?_setCell_other _ _ _ _ (by simp <;> omega)).trans cy1, (World.cell?_setCell_other _ _ _ _ (by simp <;> omega)).trans cy⟩
      clear hK K
      (try simp only [Act.put, List.setIfInBounds_toArray, List.set_cons_zero, List.set_cons_succ])
      refine wpAnyH_done (by kernel_rfl) ?_ _
      go_wp2
      go_roundw
      case rel => exact ⟨k + 1, by omega, by go_num, q1', q2', R⟩
      case measure => simp [intOf]; omega
    · have hkn : k = mx := by omega
      subst hkn
      go_wp2
      go_ret
      refine ⟨b3, g3, rfl, ⟨hne3, cap3, _, ?_, q3, ?_⟩, mb, mg, kA.trans q1 (fun i hi => by simp at hi; rcases hi with rfl | rfl <;> (right; omega))⟩
      · rw [mix_length, HZ.out]; exact q2
      · refine ⟨by rw [mix_length, HZ.out]; exact GZ.out, mix_lt _ wand_lt hwx.lt hwy.lt hw3.lt _, fun j => ?_⟩
        by_cases hj : j / 64 < zs.length
        · rw [wbit_mix _ (fun a b => a && b) wand_bits _ _ _ _ _ hj, hwx.bit, hwy.bit, hw3.bit]
          by_cases h5 : j / 64 < k
          · rw [if_pos h5]
            by_cases h6 : j < n1
            · rw [decide_eq_true h6, decide_eq_true (show j < n2 by omega)]; cases f1 j <;> cases f2 j <;> simp
            · rw [decide_eq_false h6]; cases decide (j < n2) <;> cases f1 j <;> cases f2 j <;> simp
          · rw [if_neg h5]
            have h7 : decide (j < n1) = false := by have := GX.out; simp; omega
            rw [h7]; cases decide (j < n2) <;> cases f1 j <;> cases f2 j <;> simp
        · have h8 : ¬ j < n1 := by have := GZ.out; have := HZ.out; omega
          rw [wbit_out (by rw [mix_length]; omega), decide_eq_false h8]; simp
set_option maxHeartbeats 2000000 in
set_option linter.unusedVariables false in
theorem IntersectionB_c (b1 g1 n1 b2 g2 n2 : Nat) (f1 f2 : Nat → Bool) (w : World) (h1 : BSet w b1 g1 n1 f1) (h2 : BSet w b2 g2 n2 f2) (hn1 : n1 ≤ 20000) (hn2 : n2 ≤ 20000) (hle : ¬ n1 ≤ n2) :
    Calls Try.prog 46 #[.pointer (some ⟨b1, 0, none⟩), .pointer (some ⟨b2, 0, none⟩)] w fun e w' => ∃ b3 g3, e = .returned (.pointer (some ⟨b3, 0, none⟩)) ∧ BSet w' b3 g3 n2 (fun j => (decide (j < n1) && f1 j) && (decide (j < n2) && f2 j)) ∧ w.heap.size ≤ b3 ∧ w.heap.size ≤ g3 ∧ Kept [] w w' := by
  have hs0 : w.cell? ⟨b1, 0, none⟩ = some (.int .u64 n1) := by obtain ⟨_, cap, ws, hh, _, _⟩ := h1; exact hh.c0
  have ht0 : w.cell? ⟨b2, 0, none⟩ = some (.int .u64 n2) := by obtain ⟨_, cap, ws, hh, _, _⟩ := h2; exact hh.c0
  go_enter Try.func46, Try.ntmps46
  go_wp2_with (first
    | (go_at_call 64; refine (panicIfNull_c _ _).mono ?_; rintro e w' ⟨rfl, rfl⟩)
    | (go_at_call 67; refine (sort_c b1 b2 n1 n2 _ hs0 ht0).mono ?_; rintro e w' ⟨rfl, kq, rfl⟩; rw [if_neg hle]))
  refine (new_c n2 _ hn2).mono ?_
  rintro e w1 ⟨b3, g3, rfl, h3, m1, m2, k1⟩
  have hx' := (h2.drewN kq).kept k1 (by simp) (by simp)
  have hy' := (h1.drewN kq).kept k1 (by simp) (by simp)
  have l1 := h2.lt
  have l2 := h1.lt
  obtain ⟨hne3, cap3, zs, hh3, hr3, hw3⟩ := h3
  obtain ⟨hnex, capx, xs, hhx, hrx, hwx⟩ := hx'
  obtain ⟨hney, capy, ys, hhy, hry, hwy⟩ := hy'
  have hlx := hwx.length
  have hly := hwy.length
  have hlz := hw3.length
  have cx1 := hhx.c1
  have mb : w.heap.size ≤ b3 := m1
  have mg : w.heap.size ≤ g3 := m2
  have kA : Kept [] w w1 := ((Kept.refl [] w).drewN kq).trans0 k1
  have hcx := hrx.le
  have hcy := hry.le
  have hcz := hr3.le
  obtain ⟨mx, hmx⟩ : ∃ m, xs.length = m := ⟨_, rfl⟩
  obtain ⟨my, hmy⟩ : ∃ m, ys.length = m := ⟨_, rfl⟩
  obtain ⟨mz, hmz⟩ : ∃ m, zs.length = m := ⟨_, rfl⟩
  rw [hmx] at hhx hlx cx1 hcx
  rw [hmy] at hhy hly hcy
  rw [hmz] at hh3 hlz hcz
  have hxy : mx ≤ my := by omega
  have hxz : mx ≤ mz := by omega
  have HX := Lib.hid hmx; have HY := Lib.hid hmy; have HZ := Lib.hid hmz
  have GX := Lib.hid hlx; have GY := Lib.hid hly; have GZ := Lib.hid hlz
  clear hmx hmy hmz hlx hly hlz hs0 ht0
  have hm313 : my ≤ 313 := by have := GY.out; omega
  have hst : Kept [b3, g3] w1 w1 ∧ Hdr w1 b3 n2 g3 mz cap3 ∧ URow w1 g3 (mix (fun a b => a &&& b) xs ys zs 0) cap3 := ⟨Kept.refl _ _, hh3, by rw [mix_zero]; exact hr3⟩
  go_wp2_with fail
  go_loopw [27] (fun v wr => ∃ k : Nat, k ≤ mx ∧ v = .int .i64 k ∧ Kept [b3, g3] w1 wr ∧ Hdr wr b3 n2 g3 mz cap3 ∧ URow wr g3 (mix (fun a b => a &&& b) xs ys zs k) cap3) (fun v _ => mx - (intOf v).toNat)
  case atStart => exact ⟨0, Nat.zero_le _, rfl, hst⟩
  case round =>
    obtain ⟨k, hk, rfl, q1, q2, q3⟩ := hrel
    by_cases hkm : k < mx
    · have qx := hrx.kept q1 (by simp; omega)
      have qy := hry.kept q1 (by simp; omega)
      have py := hhy.kept q1 (by simp; omega)
      have cx := qx.cell k (by rw [HX.out]; exact hkm)
      have cy := qy.cell k (by rw [HY.out]; omega)
      have c3 := q2.c1
      have cy1 := py.c1
      have hf := q3.free k
      obtain ⟨u, hu⟩ := q3.any k (by omega)
      have hy2 : k < my := by omega
      have hz2 : k < mz := by omega
      have hop := (fun a b ha hb => bits_and_nat a b ha hb) (xs.getD k 0) (ys.getD k 0) (wgetD_lt hwx.lt k) (wgetD_lt hwy.lt k)
      have R := q3.set k ((fun a b => a &&& b) (xs.getD k 0) (ys.getD k 0))
      rw [mix_step] at R
      have hne3' : b3 ≠ g3 := hne3
      have q2' := q2.other (o := k) hne3' (.int .u64 (((fun a b => a &&& b) (xs.getD k 0) (ys.getD k 0) : Nat) : Int))
      have q1' := q1.drew.setCell (p := ⟨g3, k, none⟩) (by left; simp) (.int .u64 (((fun a b => a &&& b) (xs.getD k 0) (ys.getD k 0) : Nat) : Int))
      rw [← hop] at R q2' q1'
      generalize xs.getD k 0 = X at *
      generalize ys.getD k 0 = Y at *
      have HO := Lib.hid hop; clear hop
      have i0 : (0 : Int) ≤ (k : Int) := by omega
      have i2 : (k : Int) < (my : Int) := by omega
      have i3 : (k : Int) < (mz : Int) := by omega
      go_wp2
      refine wp_region_held_drew (S := fun w' => w'.cell? ⟨b3, 1, none⟩ = some (.slice (some ⟨g3, 0, none⟩) mz cap3) ∧ w'.cell? ⟨b1, 1, none⟩ = some (.slice (some ⟨g1, 0, none⟩) my capy) ∧ w'.cell? ⟨g1, k, none⟩ = some (.int .u64 (Y : Int))) (by kernel_rfl) ⟨c3, cy1, cy⟩ (fun hS => ?_)
      refine takeD 0 32 (v := ?_) rfl rfl (by kernel_rfl) (by kernel_rfl) (by kernel_rfl) (fun _ _ _ h => h) (Or.inl ⟨by kernel_rfl, ?_⟩) hS ?_
      rotate_left 1
      · (intro w' hw'; (try dsimp only at hw'); go_simp; try with_reducible rfl)
      simp only [List.setIfInBounds_toArray, List.set_cons_zero, List.set_cons_succ]
      refine takeD 1 33 (v := ?_) rfl rfl (by kernel_rfl) (by kernel_rfl) (by kernel_rfl) (fun _ _ _ h => h) (Or.inl ⟨by kernel_rfl, ?_⟩) hS ?_
      rotate_left 1
      · (intro w' hw'; (try dsimp only at hw'); go_simp; try with_reducible rfl)
      simp only [List.setIfInBounds_toArray, List.set_cons_zero, List.set_cons_succ]
      refine takeD 2 34 (v := ?_) rfl rfl (by kernel_rfl) (by kernel_rfl) (by kernel_rfl) (fun _ _ _ h => h) (Or.inl ⟨by kernel_rfl, ?_⟩) hS ?_
      rotate_left 1
      · (intro w' hw'; (try dsimp only at hw'); go_simp; try with_reducible rfl)
      simp only [List.setIfInBounds_toArray, List.set_cons_zero, List.set_cons_succ]
      refine takeD 3 35 (v := ?_) rfl rfl (by kernel_rfl) (by kernel_rfl) (by kernel_rfl) (fun _ _ _ h => h) (Or.inl ⟨by kernel_rfl, ?_⟩) hS ?_
      rotate_left 1
      · (intro w' hw'; (try dsimp only at hw'); go_simp; try with_reducible rfl)
      simp only [List.setIfInBounds_toArray, List.set_cons_zero, List.set_cons_succ]
      refine takeD 4 36 (v := ?_) rfl rfl (by kernel_rfl) (by kernel_rfl) (by kernel_rfl) (fun _ _ _ h => h) (Or.inl ⟨by kernel_rfl, ?_⟩) hS ?_
      rotate_left 1
      · (intro w' hw'; (try dsimp only at hw'); go_simp; try with_reducible rfl)
      simp only [List.setIfInBounds_toArray, List.set_cons_zero, List.set_cons_succ]
      refine takeD 5 37 (v := ?_) rfl rfl (by kernel_rfl) (by kernel_rfl) (by kernel_rfl) (fun _ _ _ h => h) (Or.inl ⟨by kernel_rfl, ?_⟩) hS ?_
      rotate_left 1
      · (intro w' hw'; (try dsimp only at hw'); go_simp; try with_reducible rfl)
      simp only [List.setIfInBounds_toArray, List.set_cons_zero, List.set_cons_succ]
      refine takeD 6 38 (v := ?_) rfl rfl (by kernel_rfl) (by kernel_rfl) (by kernel_rfl) (fun _ _ _ h => h) (Or.inl ⟨by kernel_rfl, ?_⟩) hS ?_
      rotate_left 1
      · (intro w' hw'; (try dsimp only at hw'); go_simp; try with_reducible rfl)
      simp only [List.setIfInBounds_toArray, List.set_cons_zero, List.set_cons_succ]
      refine takeD 7 39 (v := ?_) rfl rfl (by kernel_rfl) (by kernel_rfl) (by kernel_rfl) (fun _ _ _ h => h) (Or.inl ⟨by kernel_rfl, ?_⟩) hS ?_
      rotate_left 1
      · (intro w' hw'; (try dsimp only at hw'); go_simp; try with_reducible rfl)
      simp only [List.setIfInBounds_toArray, List.set_cons_zero, List.set_cons_succ]
      refine takeD 8 40 (v := ?_) rfl rfl (by kernel_rfl) (by kernel_rfl) (by kernel_rfl) (fun _ _ _ h => h) (Or.inl ⟨by kernel_rfl, ?_⟩) hS ?_
      rotate_left 1
      · (intro w' hw'; (try dsimp only at hw'); go_simp; try with_reducible rfl)
      simp only [List.setIfInBounds_toArray, List.set_cons_zero, List.set_cons_succ]
      refine takeD 9 41 (v := ?_) rfl rfl (by kernel_rfl) (by kernel_rfl) (by kernel_rfl) (fun _ _ _ h => h) (Or.inl ⟨by kernel_rfl, ?_⟩) hS ?_
      rotate_left 1
      · (intro w' hw'; (try dsimp only at hw'); go_simp; try with_reducible rfl)
      simp only [List.setIfInBounds_toArray, List.set_cons_zero, List.set_cons_succ]
      refine takeD 10 42 (v := ?_) rfl rfl (by kernel_rfl) (by kernel_rfl) (by kernel_rfl) (fun _ _ _ h => h) (Or.inl ⟨by kernel_rfl, ?_⟩) hS ?_
      rotate_left 1
      · (intro w' hw'; (try dsimp only at hw'); go_simp; try with_reducible rfl)
      simp only [List.setIfInBounds_toArray, List.set_cons_zero, List.set_cons_succ]
      refine takeD 11 43 (v := ?_) rfl rfl (by kernel_rfl) (by kernel_rfl) (by kernel_rfl) (fun _ _ _ h => h) (Or.inl ⟨by kernel_rfl, ?_⟩) hS ?_
      rotate_left 1
      · (intro w' hw'; (try dsimp only at hw'); go_simp; try with_reducible rfl)
      simp only [List.setIfInBounds_toArray, List.set_cons_zero, List.set_cons_succ]
      refine takeD 12 44 (v := ?_) rfl rfl (by kernel_rfl) (by kernel_rfl) (by kernel_rfl) (fun _ _ _ h => h) (Or.inl ⟨by kernel_rfl, ?_⟩) hS ?_
      rotate_left 1
      · (intro w' hw'; (try dsimp only at hw'); go_simp; try with_reducible rfl)
      simp only [List.setIfInBounds_toArray, List.set_cons_zero, List.set_cons_succ]
      refine takeD 13 45 (v := ?_) rfl rfl (by kernel_rfl) (by kernel_rfl) (by kernel_rfl) (fun _ _ _ h => h) (Or.inl ⟨by kernel_rfl, ?_⟩) hS ?_
      rotate_left 1
      · (intro w' hw'; (try dsimp only at hw'); go_simp; try with_reducible rfl)
      simp only [List.setIfInBounds_toArray, List.set_cons_zero, List.set_cons_succ]
      refine takeD 14 46 (v := ?_) rfl rfl (by kernel_rfl) (by kernel_rfl) (by kernel_rfl) (fun _ _ _ h => h) (Or.inl ⟨by kernel_rfl, ?_⟩) hS ?_
      rotate_left 1
      · (intro w' hw'; (try dsimp only at hw'); go_simp; try with_reducible rfl)
      simp only [List.setIfInBounds_toArray, List.set_cons_zero, List.set_cons_succ]
      refine wpAnyH_ready (rs := [15]) (by kernel_rfl) (by simp) ?_
      refine AllReadyH.cons rfl (fun K hK => ?_) AllReadyH.nil
      go_simp
      refine hK.out _ _ ?_ (fun hS1 => ?_)
      · exact ⟨(World.cell?_setCell_other _ _ _ _ (by simp <;> omega)).trans c3, (World.cell?_setCell_other _ _ _ _ (by simp <;> omega)).trans cy1, (World.cell?_setCell_other _ _ _ _ (by simp <;> omega)).trans cy⟩
      clear hK K
      (try simp only [Act.put, List.setIfInBounds_toArray, List.set_cons_zero, List.set_cons_succ])
      refine wpAnyH_done (by kernel_rfl) ?_ _
      go_wp2
      go_roundw
      case rel => exact ⟨k + 1, by omega, by go_num, q1', q2', R⟩
      case measure => simp [intOf]; omega
    · have hkn : k = mx := by omega
      subst hkn
      go_wp2
      go_ret
      refine ⟨b3, g3, rfl, ⟨hne3, cap3, _, ?_, q3, ?_⟩, mb, mg, kA.trans q1 (fun i hi => by simp at hi; rcases hi with rfl | rfl <;> (right; omega))⟩
      · rw [mix_length, HZ.out]; exact q2
      · refine ⟨by rw [mix_length, HZ.out]; exact GZ.out, mix_lt _ wand_lt hwx.lt hwy.lt hw3.lt _, fun j => ?_⟩
        by_cases hj : j / 64 < zs.length
        · rw [wbit_mix _ (fun a b => a && b) wand_bits _ _ _ _ _ hj, hwx.bit, hwy.bit, hw3.bit]
          by_cases h5 : j / 64 < k
          · rw [if_pos h5]
            by_cases h6 : j < n2
            · rw [decide_eq_true h6, decide_eq_true (show j < n1 by omega)]; cases f1 j <;> cases f2 j <;> simp
            · rw [decide_eq_false h6]; cases decide (j < n1) <;> cases f1 j <;> cases f2 j <;> simp
          · rw [if_neg h5]
            have h7 : decide (j < n2) = false := by have := GX.out; simp; omega
            rw [h7]; cases decide (j < n1) <;> cases f1 j <;> cases f2 j <;> simp
        · have h8 : ¬ j < n2 := by have := GZ.out; have := HZ.out; omega
          rw [wbit_out (by rw [mix_length]; omega), decide_eq_false h8]; simp
theorem intersection_c (b1 g1 n1 b2 g2 n2 : Nat) (f1 f2 : Nat → Bool) (w : World) (h1 : BSet w b1 g1 n1 f1) (h2 : BSet w b2 g2 n2 f2) (hn1 : n1 ≤ 20000) (hn2 : n2 ≤ 20000) :
    Calls Try.prog 46 #[.pointer (some ⟨b1, 0, none⟩), .pointer (some ⟨b2, 0, none⟩)] w fun e w' => ∃ b3 g3, e = .returned (.pointer (some ⟨b3, 0, none⟩)) ∧ BSet w' b3 g3 (min n1 n2) (fun j => (decide (j < n1) && f1 j) && (decide (j < n2) && f2 j)) ∧ w.heap.size ≤ b3 ∧ w.heap.size ≤ g3 ∧ Kept [] w w' := by
  by_cases hle : n1 ≤ n2
  · rw [show min n1 n2 = n1 by omega]; exact IntersectionA_c b1 g1 n1 b2 g2 n2 f1 f2 w h1 h2 hn1 hn2 hle
  · rw [show min n1 n2 = n2 by omega]; exact IntersectionB_c b1 g1 n1 b2 g2 n2 f1 f2 w h1 h2 hn1 hn2 hle


end Go.Proofs.Ytiaghdnhapiioaa

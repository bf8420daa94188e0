/-
  The contract of ShiftLeft onto a new row.
-/
import Derived.BigRegion
import Derived.Deep.Cut
import Derived.Test.YtiaghdnhapiioaaShlP
import Derived.Test.YtiaghdnhapiioaaTop
import Derived.Test.YtiaghdnhapiioaaCopyOp
import Derived.Test.YtiaghdnhapiioaaTwo
namespace Go.Proofs.Ytiaghdnhapiioaa
set_option linter.unusedSimpArgs false
set_option linter.unusedVariables false
open Go.RowKit

set_option maxHeartbeats 4000000 in
set_option maxRecDepth 100000 in
theorem shiftLeftA_c (b g n k T : Nat) (f : Nat → Bool) (w : World) (h : BSet w b g n f) (hn : n ≤ 20000) (hk : k ≤ 2500) (hk0 : k ≠ 0) (hq : lst f n = T + 1) (hcase : (n + 63) / 64 < (T + k) / 64 + 1) :
    Calls Try.prog 47 #[.pointer (some ⟨b, 0, none⟩), .int .u64 k] w fun e w' => e = .returned (.tuple #[]) ∧ ∃ g' n', BSet w' b g' n' (fun j => decide (k ≤ j) && (decide (j - k < n) && f (j - k))) ∧ n ≤ n' ∧ n' ≤ max n (T + k + 1) ∧ T + k < n' ∧ (g' = g ∨ w.heap.size ≤ g') ∧ Kept [b, g] w w' := by
  have hn1 : n ≤ 20001 := by omega
  have hTn : T < n := by have := lst_le f n; omega
  have hTz : ∀ j, T < j → j < n → f j = false := fun j h1 h2 => lst_out f n j (by omega) h2
  have h0 := h
  obtain ⟨hne, cap, ws, hh, hr, hw⟩ := h0
  have hl := hw.length
  have hle := hr.le
  have hblt := hh.lt
  have hglt := hr.lt
  obtain ⟨m, hm⟩ : ∃ m, ws.length = m := ⟨_, rfl⟩
  obtain ⟨p, hp⟩ : ∃ p, k / 64 = p := ⟨_, rfl⟩
  obtain ⟨s, hs⟩ : ∃ s, k % 64 = s := ⟨_, rfl⟩
  obtain ⟨x, hx⟩ : ∃ x, T / 64 = x := ⟨_, rfl⟩
  obtain ⟨d, hd⟩ : ∃ d, T % 64 = d := ⟨_, rfl⟩
  obtain ⟨z, hz⟩ : ∃ z, (T + k) / 64 + 1 = z := ⟨_, rfl⟩
  have hs64 : s < 64 := by omega
  have hd64 : d < 64 := by omega
  rw [hm] at hh hl hle
  have hxm : x < m := by omega
  have hm4 : m ≤ 400 := by omega
  have hz4 : z ≤ 400 := by omega
  have hpz : p + x + 1 ≤ z := by omega
  have hc0 := hh.c0
  have hc1 := hh.c1
  have hf0 := hh.free 0
  have hf1 := hh.free 1
  have e0 : ¬ (k : Int) = 0 := by omega
  have e1 : ¬ (T : Int) + (k : Int) < (k : Int) := by omega
  have e2 : (T : Int) % 64 = (d : Int) := by omega
  have e3 : (T : Int) / 64 = (x : Int) := by omega
  have e4 : (k : Int) / 64 = (p : Int) := by omega
  have e5 : (k : Int) % 64 = (s : Int) := by omega
  have e7 : ((T : Int) + (k : Int) + 1 + 63) / 64 = (z : Int) := by omega
  have hwx : ∀ q, x < q → ws.getD q 0 = 0 := fun q hq => word_zero hw hTz q (by omega)
  have hsz : ∀ q, x + 1 + p + 1 ≤ q → shlW ws p s q = 0 := fun q hq => shlW_zero hw hTz p s q hs64 (by omega)
  have hsz2 : d + s < 64 → ∀ q, x + 1 + p ≤ q → shlW ws p s q = 0 := fun h q hq => shlW_zero hw hTz p s q hs64 (by omega)
  have hz64 : d + s < 64 → z = p + x + 1 := fun h => by omega
  have hz65 : 64 ≤ d + s → z = p + x + 2 := fun h => by omega
  have hstop : shlW ws p s (x + 1 + p) = down (64 - s) (ws.getD x 0) := by
    rw [shlW_at ws p s (x + 1) (by omega), hwx (x + 1) (by omega), show x + 1 - 1 = x by omega]
    have : up s 0 = 0 := by unfold up; simp
    rw [this, Nat.zero_or]
  have hmz : m < z := by omega
  have hmz' : (m : Int) < (z : Int) := by omega
  have hgr : (n : Int) ≤ (T : Int) + (k : Int) := by omega
  have hDD : ∀ q, (List.replicate z 0).getD q 0 = 0 := fun q => by rw [List.getD_eq_getElem?_getD, List.getElem?_replicate]; split <;> simp
  have hok := shl_ok (D := List.replicate z 0) hw hTz k p s z (by omega) hs64 (by simp) (fun x hx => by rw [(List.mem_replicate.1 hx).2]; decide) (n' := T + k + 1) (by omega) (by omega)
  have hD1 : (List.replicate z 0).length = z := by simp
  have hb1 := shl_start2 ws (List.replicate z 0) p s (x + 1 + p) (fun q hq _ => hDD q) hsz
  have hb2 : d + s < 64 → (List.replicate z 0) = part (fun q => decide (x + 1 + p ≤ q)) (shlW ws p s) (List.replicate z 0) := fun h => shl_start ws (List.replicate z 0) p s (x + 1 + p) (fun q hq _ => hDD q) (hsz2 h)
  have hspl := shl_splice ws (List.replicate z 0) p x hw.lt (by omega) (by rw [hD1]; omega) hwx (fun q hq _ => hDD q)
  have hstep := shl_step ws (List.replicate z 0) p s
  have hlow := shl_low ws (List.replicate z 0) p s
  have hlow0 := shl_low0 ws (List.replicate z 0) p s
  have hlowE := shl_lowE ws (List.replicate z 0) p s
  have hat := shlW_at ws p s
  have hfirst := shlW_first ws p s
  have hcl : (ws.take (x + 1)).length = x + 1 := by rw [List.length_take]; omega
  have hsrc0 : ∀ j, j < m → w.cell? ⟨g, j, none⟩ = some (.int .u64 (ws.getD j 0 : Nat)) := fun j hj => hr.cell j (by omega)
  have hcs : ∀ j, j < x + 1 → (ws.take (x + 1)).getD j 0 = ws.getD j 0 := fun j hj => by rw [getD_in _ _ _ (by rw [hcl]; exact hj), List.getElem_take, getD_in _ _ _ (by omega)]
  have HM := Lib.hid hm; have HQ := Lib.hid hq; have HOK := Lib.hid hok; have HB1 := Lib.hid hb1; have HB2 := Lib.hid hb2; have HSPL := Lib.hid hspl; have HSTEP := Lib.hid hstep; have HLOW := Lib.hid hlow; have HLOW0 := Lib.hid hlow0; have HLOWE := Lib.hid hlowE
  have HAT := Lib.hid hat; have HFIRST := Lib.hid hfirst; have HCL := Lib.hid hcl; have HSRC0 := Lib.hid hsrc0; have HCS := Lib.hid hcs; have HWL := Lib.hid hw.word; have HTOP := Lib.hid hstop; have HD1 := Lib.hid hD1; have HZ64 := Lib.hid hz64; have HZ65 := Lib.hid hz65
  clear hm hp hs hx hd hz hq hok hb1 hb2 hspl hstep hlow hlow0 hlowE hat hfirst hcl hsrc0 hcs hstop hD1 hz64 hz65 hwx hsz hsz2 hTz hw hl hDD
  obtain ⟨i0, hi0, hz0, hz1, hz2⟩ := info_parts Try.infoU
  have hcz : z ≤ z := by omega
  have hzz : z ≤ z := by omega
  have hDb : w.heap.size ≠ b := by omega
  have kA : Kept [b, g] w (w.setCell ⟨b, 0, none⟩ (.int .u64 ((T : Int) + (k : Int) + 1))) := (Kept.refl _ _).setCell (by left; simp) _
  have hV : Hdr ((w.setCell ⟨b, 0, none⟩ (.int .u64 ((T : Int) + (k : Int) + 1))).alloc (.cells (zrow (.int .u64 0) z) 72)) b (T + k + 1) g m cap := (hh.setLen (T + k + 1)).alloc _
  have dV : URow ((w.setCell ⟨b, 0, none⟩ (.int .u64 ((T : Int) + (k : Int) + 1))).alloc (.cells (zrow (.int .u64 0) z) 72)) w.heap.size (List.replicate z 0) z := by
    have := URow.new (w.setCell ⟨b, 0, none⟩ (.int .u64 ((T : Int) + (k : Int) + 1))) z z (Nat.le_refl _)
    simpa [World.setCell] using this
  have kV : Kept [b, g] w ((w.setCell ⟨b, 0, none⟩ (.int .u64 ((T : Int) + (k : Int) + 1))).alloc (.cells (zrow (.int .u64 0) z) 72)) := kA.alloc _
  have sV : ∀ j, j < m → ((w.setCell ⟨b, 0, none⟩ (.int .u64 ((T : Int) + (k : Int) + 1))).alloc (.cells (zrow (.int .u64 0) z) 72)).cell? ⟨g, j, none⟩ = some (.int .u64 (ws.getD j 0 : Nat)) := fun j hj => ((Kept.refl [] _).alloc _).cell (by simp) ((World.cell?_setCell_other _ _ _ _ (by intro e; injection e with e1 e2 e3; omega)).trans (HSRC0.out j hj))
  have HV := Lib.hid hV; have HDV := Lib.hid dV; have HKV := Lib.hid kV; have HSV := Lib.hid sV
  clear kA hV dV kV sV
  go_enter Try.func47, Try.ntmps47
  go_wp2_with (go_at_call 64; refine (panicIfNull_c _ _).mono ?_; rintro e w' ⟨rfl, rfl⟩)
  refine (btop_c b g n f w h hn1).mono ?_
  rintro e wt ⟨rfl, hwt⟩
  subst wt
  rw [HQ.out, topV_succ]
  go_wp2_with fail
  refine (wordsNeeded_c _ (by omega) (by omega) _).mono ?_
  rintro e w' ⟨rfl, hww⟩
  subst w'
  rw [e7]
  go_upto_region 12 with (refine wpList_mk rfl (.tmp 47) (.tmp 47) 69 72 rfl i0 (.int .u64 0) 8 Try.underlying69 hi0 hz0 hz1 hz2 rfl _ _ z z rfl rfl rfl rfl (Nat.le_refl _) (by omega) (by omega) ?_)
  have hV := HV.out; have dV := HDV.out; have kV := HKV.out; have sV := HSV.out
  clear HV HDV HKV HSV h hh hr hc0 hc1 hf0 hf1 HSRC0
  generalize ((w.setCell ⟨b, 0, none⟩ (.int .u64 ((T : Int) + (k : Int) + 1))).alloc (.cells (zrow (.int .u64 0) z) 72)) = V at *
  have cV := hV.c1
  by_cases hs0 : s = 0
  · subst hs0
    have hzp := HZ64.out (by omega)
    have hzp2 : z - p = x + 1 := by omega
    have f1 : (p : Int) ≤ (z : Int) := by omega
    have f2 : (z : Int) ≤ (z : Int) := by omega
    have f3 : ¬ z = p := by omega
    have HZP := Lib.hid hzp; clear hzp
    go_wp2_with fail
    refine wp_region_held_drew (S := fun w' => w'.cell? ⟨b, 1, none⟩ = some (.slice (some ⟨g, 0, none⟩) m cap)) (by kernel_rfl) cV (fun hS => ?_)
    refine takeD 0 75 (v := ?_) rfl rfl (by kernel_rfl) (by kernel_rfl) (by kernel_rfl) (fun _ _ _ h => h) (Or.inl ⟨by kernel_rfl, ?_⟩) hS ?_
    rotate_left 1
    · (intro w' hw'; (try dsimp only at hw'); go_simp; try with_reducible rfl)
    simp only [List.setIfInBounds_toArray, List.set_cons_zero, List.set_cons_succ]
    refine takeD 1 76 (v := ?_) rfl rfl (by kernel_rfl) (by kernel_rfl) (by kernel_rfl) (fun _ _ _ h => h) (Or.inl ⟨by kernel_rfl, ?_⟩) hS ?_
    rotate_left 1
    · (intro w' hw'; (try dsimp only at hw'); go_simp; try with_reducible rfl)
    simp only [List.setIfInBounds_toArray, List.set_cons_zero, List.set_cons_succ]
    refine takeD 2 77 (v := ?_) rfl rfl (by kernel_rfl) (by kernel_rfl) (by kernel_rfl) (fun _ _ _ h => h) (Or.inl ⟨by kernel_rfl, ?_⟩) hS ?_
    rotate_left 1
    · (intro w' hw'; (try dsimp only at hw'); go_simp; try with_reducible rfl)
    simp only [List.setIfInBounds_toArray, List.set_cons_zero, List.set_cons_succ]
    refine takeD 3 78 (v := ?_) rfl rfl (by kernel_rfl) (by kernel_rfl) (by kernel_rfl) (fun _ _ _ h => h) (Or.inl ⟨by kernel_rfl, ?_⟩) hS ?_
    rotate_left 1
    · (intro w' hw'; (try dsimp only at hw'); go_simp; try with_reducible rfl)
    simp only [List.setIfInBounds_toArray, List.set_cons_zero, List.set_cons_succ]
    refine takeD 4 79 (v := ?_) rfl rfl (by kernel_rfl) (by kernel_rfl) (by kernel_rfl) (fun _ _ _ h => h) (Or.inl ⟨by kernel_rfl, ?_⟩) hS ?_
    rotate_left 1
    · (intro w' hw'; (try dsimp only at hw'); go_simp; try with_reducible rfl)
    simp only [List.setIfInBounds_toArray, List.set_cons_zero, List.set_cons_succ]
    refine takeD 5 80 (v := ?_) rfl rfl (by kernel_rfl) (by kernel_rfl) (by kernel_rfl) (fun _ _ _ h => h) (Or.inl ⟨by kernel_rfl, ?_⟩) hS ?_
    rotate_left 1
    · (intro w' hw'; (try dsimp only at hw'); go_simp; try with_reducible rfl)
    simp only [List.setIfInBounds_toArray, List.set_cons_zero, List.set_cons_succ]
    refine takeD 6 81 (v := ?_) rfl rfl (by kernel_rfl) (by kernel_rfl) (by kernel_rfl) (fun _ _ _ h => h) (Or.inl ⟨by kernel_rfl, ?_⟩) hS ?_
    rotate_left 1
    · (intro w' hw'; (try dsimp only at hw'); go_simp; try with_reducible rfl)
    simp only [List.setIfInBounds_toArray, List.set_cons_zero, List.set_cons_succ]
    refine takeD 7 82 (v := ?_) rfl rfl (by kernel_rfl) (by kernel_rfl) (by kernel_rfl) (fun _ _ _ h => h) (Or.inl ⟨by kernel_rfl, ?_⟩) hS ?_
    rotate_left 1
    · (intro w' hw'; (try dsimp only at hw'); go_simp; try with_reducible rfl)
    simp only [List.setIfInBounds_toArray, List.set_cons_zero, List.set_cons_succ]
    refine wpAnyH_ready (rs := [8]) (by kernel_rfl) (by simp) ?_
    refine AllReadyH.cons rfl (fun K hK => ?_) AllReadyH.nil
    refine wanted_plain rfl ?_
    refine oper_copyU (.tmp 78) (.tmp 82) 69 rfl Try.underlying69 Try.sizeU w.heap.size p (x + 1) (x + 1) g 0 m cap rfl rfl (List.replicate z 0) z dV (ws.take (x + 1)) (by rw [HCL.out]; exact (Nat.min_eq_right (by omega)).symm) (fun j hj => by rw [HCL.out] at hj; rw [Nat.zero_add, HCS.out j hj]; exact sV j (by omega)) (by rw [HCL.out, HD1.out]; omega) ?_
    intro w2 r2 k2 hsz
    have k2g : Kept [w.heap.size] V w2 := ((Kept.refl [w.heap.size] V).drew).trans k2 (fun i hi => .inl hi)
    refine hK.out _ _ ?_ (fun hS2 => ?_)
    · exact k2g.cell (by simp; omega) cV
    clear hK K
    (try simp only [Act.put, List.setIfInBounds_toArray, List.set_cons_zero, List.set_cons_succ])
    refine wpAnyH_done (by kernel_rfl) ?_ _
    rw [HSPL.out, HLOW0.out] at r2
    have kZ : Kept [b, g] w w2 := kV.trans k2g (fun i hi => by simp at hi; subst hi; right; exact Nat.le_refl _)
    have hZ := hV.kept k2g (by simp; omega)
    have rZ := r2
    clear hS hS2 k2g k2 hsz kV hV dV sV cV
    go_wp2_with fail
    go_loopw [13] (fun v wr => ∃ i : Nat, i ≤ p ∧ v = .int .i64 i ∧ Kept [b, g] w wr ∧ Hdr wr b (T + k + 1) g m cap ∧ URow wr w.heap.size (part (fun q => decide (p ≤ q) || decide (q < i)) (shlW ws p 0) (List.replicate z 0)) z) (fun v _ => p - (intOf v).toNat)
    case atStart => exact ⟨0, Nat.zero_le _, rfl, kZ, hZ, rZ⟩
    case round =>
      obtain ⟨i, hi, rfl, q1, q2, q3⟩ := hrel
      clear kZ hZ rZ
      by_cases hip : i < p
      · have hf := q3.free i
        obtain ⟨u, hu⟩ := q3.any i (by omega)
        have R := q3.set i 0
        rw [HLOW.out i hip] at R
        have Q1 := q1.setCell (p := ⟨w.heap.size, i, none⟩) (by right; simp) (.int .u64 ((0 : Nat) : Int))
        have Q2 := q2.other (o := i) (Ne.symm hDb) (.int .u64 ((0 : Nat) : Int))
        have b0 : (0 : Int) ≤ (i : Int) := by omega
        have b1 : (i : Int) < (z : Int) := by omega
        clear q1 q2 q3
        go_wp2_with fail
        go_roundw
        case rel => exact ⟨i + 1, by omega, by go_num, Q1, Q2, R⟩
        case measure => simp [intOf] <;> omega
      · obtain rfl : i = p := by omega
        have c1 := q2.c1
        have z1 := q2.free 1
        rw [HLOWE.out] at q3
        go_wp2_with fail
        go_end0
        exact ⟨rfl, w.heap.size, (T + k + 1), ⟨Ne.symm hDb, z, _, by rw [part_length, HD1.out]; exact q2.setRow w.heap.size z z, q3.other hDb _, HOK.out⟩, by omega, by omega, by omega, .inr (Nat.le_refl _), q1.setCell (by left; simp) _⟩
  · have hs1 : ¬ (s : Int) = 0 := by omega
    go_upto_region 16 with fail
    rw [e2, e5]
    by_cases hpad : 64 ≤ d + s
    · have hpad' : (64 : Int) ≤ (d : Int) + (s : Int) := by omega
      have hzp := HZ65.out hpad
      have cX := sV x hxm
      have hX := HWL.out x
      have hf := dV.free (x + p + 1)
      obtain ⟨u, hu⟩ := dV.any (x + p + 1) (by omega)
      have R := dV.set (x + 1 + p) (shlW ws p s (x + 1 + p))
      rw [HB1.out] at R
      have kL := kV.setCell (p := ⟨w.heap.size, x + 1 + p, none⟩) (by right; simp) (.int .u64 ((shlW ws p s (x + 1 + p) : Nat) : Int))
      have hL := hV.other (o := x + 1 + p) (Ne.symm hDb) (.int .u64 ((shlW ws p s (x + 1 + p) : Nat) : Int))
      have sL0 : ∀ j, j < x + 1 → (V.setCell ⟨w.heap.size, x + 1 + p, none⟩ (.int .u64 ((shlW ws p s (x + 1 + p) : Nat) : Int))).cell? ⟨g, j, none⟩ = some (.int .u64 (ws.getD j 0 : Nat)) := fun j hj => (World.cell?_setCell_other _ _ _ _ (by intro e; injection e with e1 e2 e3; omega)).trans (sV j (by omega))
      have sL := Lib.hid sL0; clear sL0
      have hop : ((ws.getD x 0 : Nat) : Int) / 2 ^ (64 - s) = ((shlW ws p s (x + p + 1) : Nat) : Int) := by rw [int_down, show x + p + 1 = x + 1 + p by omega, HTOP.out]
      rw [show x + 1 + p = x + p + 1 by omega] at R kL hL sL
      have hpp : (fun q => decide (x + p + 1 ≤ q)) = (fun q => decide (x + 1 + p ≤ q)) := by funext q; rw [show x + p + 1 = x + 1 + p by omega]
      have rL := R
      rw [hpp] at rL
      have b2 : (0 : Int) ≤ (x : Int) + (p : Int) + 1 := by omega
      have b3 : (x : Int) + (p : Int) + 1 < (z : Int) := by omega
      have b4 : ((x : Int) + (p : Int) + 1).toNat = x + p + 1 := by omega
      have b6 : IntKind.u64.wrap (64 - (s : Int)) = 64 - (s : Int) := by rw [IntKind.wrap_u64]; omega
      have b7 : (64 - (s : Int)).toNat = 64 - s := by omega
      have b8 : (0 : Int) ≤ (x : Int) := by omega
      have b9 : (x : Int) < (m : Int) := by omega
      generalize ws.getD x 0 = X at *
      have HOP := Lib.hid hop; clear hop R hzp sV hpp
      go_wp2_with fail
      rw [HOP.out]
      go_loopw [12] (fun v wr => ∃ (i : Nat) (y : Int), i ≤ x + 1 ∧ v = .int .i64 y ∧ y + 1 = i ∧ Kept [b, g] w wr ∧ Hdr wr b (T + k + 1) g m cap ∧ URow wr w.heap.size (part (fun q => decide (i + p ≤ q)) (shlW ws p s) (List.replicate z 0)) z ∧ Hid (∀ j, j < i → wr.cell? ⟨g, j, none⟩ = some (.int .u64 (ws.getD j 0 : Nat)))) (fun v _ => (intOf v + 1).toNat)
      case atStart => exact ⟨x + 1, (x : Int), Nat.le_refl _, rfl, by omega, kL, hL, rL, sL⟩
      case round =>
        obtain ⟨i, y, hi, rfl, hy, q1, q2, q3, q4⟩ := hrel
        clear kL hL rL sL
        rcases i with _ | q
        · obtain rfl : y = -1 := by omega
          have kZ := q1; have hZ := q2
          have rZ := q3
          rw [show (0 : Nat) + p = p by omega, HLOW0.out] at rZ
          clear q1 q2 q3 q4
          go_wp2_with fail
          go_loopw [13] (fun v wr => ∃ i : Nat, i ≤ p ∧ v = .int .i64 i ∧ Kept [b, g] w wr ∧ Hdr wr b (T + k + 1) g m cap ∧ URow wr w.heap.size (part (fun q => decide (p ≤ q) || decide (q < i)) (shlW ws p s) (List.replicate z 0)) z) (fun v _ => p - (intOf v).toNat)
          case atStart => exact ⟨0, Nat.zero_le _, rfl, kZ, hZ, rZ⟩
          case round =>
            obtain ⟨i, hi, rfl, q1, q2, q3⟩ := hrel
            clear kZ hZ rZ
            by_cases hip : i < p
            · have hf := q3.free i
              obtain ⟨u, hu⟩ := q3.any i (by omega)
              have R := q3.set i 0
              rw [HLOW.out i hip] at R
              have Q1 := q1.setCell (p := ⟨w.heap.size, i, none⟩) (by right; simp) (.int .u64 ((0 : Nat) : Int))
              have Q2 := q2.other (o := i) (Ne.symm hDb) (.int .u64 ((0 : Nat) : Int))
              have b0 : (0 : Int) ≤ (i : Int) := by omega
              have b1 : (i : Int) < (z : Int) := by omega
              clear q1 q2 q3
              go_wp2_with fail
              go_roundw
              case rel => exact ⟨i + 1, by omega, by go_num, Q1, Q2, R⟩
              case measure => simp [intOf] <;> omega
            · obtain rfl : i = p := by omega
              have c1 := q2.c1
              have z1 := q2.free 1
              rw [HLOWE.out] at q3
              go_wp2_with fail
              go_end0
              exact ⟨rfl, w.heap.size, (T + k + 1), ⟨Ne.symm hDb, z, _, by rw [part_length, HD1.out]; exact q2.setRow w.heap.size z z, q3.other hDb _, HOK.out⟩, by omega, by omega, by omega, .inr (Nat.le_refl _), q1.setCell (by left; simp) _⟩
        · obtain rfl : y = (q : Int) := by omega
          have c1 := q2.c1
          have cX := q4.out q (by omega)
          have hX := HWL.out q
          have hf := q3.free (q + p)
          obtain ⟨u, hu⟩ := q3.any (q + p) (by omega)
          rw [show q + 1 + p = q + p + 1 by omega] at q3
          have R := q3.set (q + p) (shlW ws p s (q + p))
          rw [HSTEP.out (q + p)] at R
          have Q1 := q1.drew.setCell (p := ⟨w.heap.size, q + p, none⟩) (by right; simp) (.int .u64 ((shlW ws p s (q + p) : Nat) : Int))
          have Q2 := q2.other (o := q + p) (Ne.symm hDb) (.int .u64 ((shlW ws p s (q + p) : Nat) : Int))
          have Q4 : ∀ j, j < q → (wr.setCell ⟨w.heap.size, q + p, none⟩ (.int .u64 ((shlW ws p s (q + p) : Nat) : Int))).cell? ⟨g, j, none⟩ = some (.int .u64 (ws.getD j 0 : Nat)) := fun j hj => (World.cell?_setCell_other _ _ _ _ (by intro e; injection e with e1 e2 e3; omega)).trans (q4.out j (by omega))
          have HQ4 := Lib.hid Q4; clear Q4
          have b0 : (0 : Int) ≤ (q : Int) := by omega
          have b1 : (q : Int) < (m : Int) := by omega
          have b2 : (0 : Int) ≤ (q : Int) + (p : Int) := by omega
          have b3 : (q : Int) + (p : Int) < (z : Int) := by omega
          have b4 : ((q : Int) + (p : Int)).toNat = q + p := by omega
          have b5 : IntKind.i64.wrap ((q : Int) + (p : Int)) = (q : Int) + (p : Int) := by rw [IntKind.wrap_i64]; omega
          have b6 : IntKind.u64.wrap (64 - (s : Int)) = 64 - (s : Int) := by rw [IntKind.wrap_u64]; omega
          have b7 : (64 - (s : Int)).toNat = 64 - s := by omega
          by_cases hq0 : q = 0
          · subst hq0
            have hop : IntKind.u64.wrap (((ws.getD 0 0 : Nat) : Int) * 2 ^ s) = ((shlW ws p s (0 + p) : Nat) : Int) := by rw [wrap_up, HFIRST.out]
            have Q1 := q1.setCell (p := ⟨w.heap.size, 0 + p, none⟩) (by right; simp) (.int .u64 ((shlW ws p s (0 + p) : Nat) : Int))
            rw [Nat.zero_add] at Q1 Q2 R HQ4 hf hu hop
            generalize ws.getD 0 0 = X at *
            generalize shlW ws p s p = Z at *
            have HOP := Lib.hid hop; clear hop q1 q2 q3 q4
            go_wp2_with fail
            rw [HOP.out]
            go_roundw
            case rel => exact ⟨0, -1, by omega, by go_num, by omega, Q1, Q2, by rw [Nat.zero_add]; exact R, HQ4⟩
            case measure => simp [intOf] <;> omega
          · have cY := q4.out (q - 1) (by omega)
            have hY := HWL.out (q - 1)
            have hop : bits .or .u64 (IntKind.u64.wrap (((ws.getD q 0 : Nat) : Int) * 2 ^ s)) (((ws.getD (q - 1) 0 : Nat) : Int) / 2 ^ (64 - s)) = ((shlW ws p s (q + p) : Nat) : Int) := by
              rw [int_down, wrap_up, bits_or_nat _ _ (up_lt _ _) (down_lt _ _ hY), HAT.out q (by omega)]
            have d1 : (0 : Int) < (q : Int) := by omega
            have d2 : (0 : Int) ≤ (q : Int) - 1 := by omega
            have d3 : (q : Int) - 1 < (m : Int) := by omega
            have d4 : ((q : Int) - 1).toNat = q - 1 := by omega
            have d5 : IntKind.i64.wrap ((q : Int) - 1) = (q : Int) - 1 := by rw [IntKind.wrap_i64]; omega
            generalize ws.getD q 0 = X at *
            generalize ws.getD (q - 1) 0 = Y at *
            generalize shlW ws p s (q + p) = Z at *
            have HOP := Lib.hid hop; clear hop q1 q2 q3 q4
            go_wp2_with fail
            go_region
            all_goals
              go_wp2
              rw [HOP.out]
              go_roundw
              case rel => exact ⟨q, (q : Int) - 1, by omega, by go_num, by omega, Q1, Q2, R, HQ4⟩
              case measure => simp [intOf] <;> omega
    · have hpad' : ¬ (64 : Int) ≤ (d : Int) + (s : Int) := by omega
      have kL := kV; have hL := hV
      have rL := dV
      rw [HB2.out (by omega)] at rL
      have sL0 : ∀ j, j < x + 1 → V.cell? ⟨g, j, none⟩ = some (.int .u64 (ws.getD j 0 : Nat)) := fun j hj => sV j (by omega)
      have sL := Lib.hid sL0; clear sL0
      go_wp2_with fail
      go_loopw [12] (fun v wr => ∃ (i : Nat) (y : Int), i ≤ x + 1 ∧ v = .int .i64 y ∧ y + 1 = i ∧ Kept [b, g] w wr ∧ Hdr wr b (T + k + 1) g m cap ∧ URow wr w.heap.size (part (fun q => decide (i + p ≤ q)) (shlW ws p s) (List.replicate z 0)) z ∧ Hid (∀ j, j < i → wr.cell? ⟨g, j, none⟩ = some (.int .u64 (ws.getD j 0 : Nat)))) (fun v _ => (intOf v + 1).toNat)
      case atStart => exact ⟨x + 1, (x : Int), Nat.le_refl _, rfl, by omega, kL, hL, rL, sL⟩
      case round =>
        obtain ⟨i, y, hi, rfl, hy, q1, q2, q3, q4⟩ := hrel
        clear kL hL rL sL
        rcases i with _ | q
        · obtain rfl : y = -1 := by omega
          have kZ := q1; have hZ := q2
          have rZ := q3
          rw [show (0 : Nat) + p = p by omega, HLOW0.out] at rZ
          clear q1 q2 q3 q4
          go_wp2_with fail
          go_loopw [13] (fun v wr => ∃ i : Nat, i ≤ p ∧ v = .int .i64 i ∧ Kept [b, g] w wr ∧ Hdr wr b (T + k + 1) g m cap ∧ URow wr w.heap.size (part (fun q => decide (p ≤ q) || decide (q < i)) (shlW ws p s) (List.replicate z 0)) z) (fun v _ => p - (intOf v).toNat)
          case atStart => exact ⟨0, Nat.zero_le _, rfl, kZ, hZ, rZ⟩
          case round =>
            obtain ⟨i, hi, rfl, q1, q2, q3⟩ := hrel
            clear kZ hZ rZ
            by_cases hip : i < p
            · have hf := q3.free i
              obtain ⟨u, hu⟩ := q3.any i (by omega)
              have R := q3.set i 0
              rw [HLOW.out i hip] at R
              have Q1 := q1.setCell (p := ⟨w.heap.size, i, none⟩) (by right; simp) (.int .u64 ((0 : Nat) : Int))
              have Q2 := q2.other (o := i) (Ne.symm hDb) (.int .u64 ((0 : Nat) : Int))
              have b0 : (0 : Int) ≤ (i : Int) := by omega
              have b1 : (i : Int) < (z : Int) := by omega
              clear q1 q2 q3
              go_wp2_with fail
              go_roundw
              case rel => exact ⟨i + 1, by omega, by go_num, Q1, Q2, R⟩
              case measure => simp [intOf] <;> omega
            · obtain rfl : i = p := by omega
              have c1 := q2.c1
              have z1 := q2.free 1
              rw [HLOWE.out] at q3
              go_wp2_with fail
              go_end0
              exact ⟨rfl, w.heap.size, (T + k + 1), ⟨Ne.symm hDb, z, _, by rw [part_length, HD1.out]; exact q2.setRow w.heap.size z z, q3.other hDb _, HOK.out⟩, by omega, by omega, by omega, .inr (Nat.le_refl _), q1.setCell (by left; simp) _⟩
        · obtain rfl : y = (q : Int) := by omega
          have c1 := q2.c1
          have cX := q4.out q (by omega)
          have hX := HWL.out q
          have hf := q3.free (q + p)
          obtain ⟨u, hu⟩ := q3.any (q + p) (by omega)
          rw [show q + 1 + p = q + p + 1 by omega] at q3
          have R := q3.set (q + p) (shlW ws p s (q + p))
          rw [HSTEP.out (q + p)] at R
          have Q1 := q1.drew.setCell (p := ⟨w.heap.size, q + p, none⟩) (by right; simp) (.int .u64 ((shlW ws p s (q + p) : Nat) : Int))
          have Q2 := q2.other (o := q + p) (Ne.symm hDb) (.int .u64 ((shlW ws p s (q + p) : Nat) : Int))
          have Q4 : ∀ j, j < q → (wr.setCell ⟨w.heap.size, q + p, none⟩ (.int .u64 ((shlW ws p s (q + p) : Nat) : Int))).cell? ⟨g, j, none⟩ = some (.int .u64 (ws.getD j 0 : Nat)) := fun j hj => (World.cell?_setCell_other _ _ _ _ (by intro e; injection e with e1 e2 e3; omega)).trans (q4.out j (by omega))
          have HQ4 := Lib.hid Q4; clear Q4
          have b0 : (0 : Int) ≤ (q : Int) := by omega
          have b1 : (q : Int) < (m : Int) := by omega
          have b2 : (0 : Int) ≤ (q : Int) + (p : Int) := by omega
          have b3 : (q : Int) + (p : Int) < (z : Int) := by omega
          have b4 : ((q : Int) + (p : Int)).toNat = q + p := by omega
          have b5 : IntKind.i64.wrap ((q : Int) + (p : Int)) = (q : Int) + (p : Int) := by rw [IntKind.wrap_i64]; omega
          have b6 : IntKind.u64.wrap (64 - (s : Int)) = 64 - (s : Int) := by rw [IntKind.wrap_u64]; omega
          have b7 : (64 - (s : Int)).toNat = 64 - s := by omega
          by_cases hq0 : q = 0
          · subst hq0
            have hop : IntKind.u64.wrap (((ws.getD 0 0 : Nat) : Int) * 2 ^ s) = ((shlW ws p s (0 + p) : Nat) : Int) := by rw [wrap_up, HFIRST.out]
            have Q1 := q1.setCell (p := ⟨w.heap.size, 0 + p, none⟩) (by right; simp) (.int .u64 ((shlW ws p s (0 + p) : Nat) : Int))
            rw [Nat.zero_add] at Q1 Q2 R HQ4 hf hu hop
            generalize ws.getD 0 0 = X at *
            generalize shlW ws p s p = Z at *
            have HOP := Lib.hid hop; clear hop q1 q2 q3 q4
            go_wp2_with fail
            rw [HOP.out]
            go_roundw
            case rel => exact ⟨0, -1, by omega, by go_num, by omega, Q1, Q2, by rw [Nat.zero_add]; exact R, HQ4⟩
            case measure => simp [intOf] <;> omega
          · have cY := q4.out (q - 1) (by omega)
            have hY := HWL.out (q - 1)
            have hop : bits .or .u64 (IntKind.u64.wrap (((ws.getD q 0 : Nat) : Int) * 2 ^ s)) (((ws.getD (q - 1) 0 : Nat) : Int) / 2 ^ (64 - s)) = ((shlW ws p s (q + p) : Nat) : Int) := by
              rw [int_down, wrap_up, bits_or_nat _ _ (up_lt _ _) (down_lt _ _ hY), HAT.out q (by omega)]
            have d1 : (0 : Int) < (q : Int) := by omega
            have d2 : (0 : Int) ≤ (q : Int) - 1 := by omega
            have d3 : (q : Int) - 1 < (m : Int) := by omega
            have d4 : ((q : Int) - 1).toNat = q - 1 := by omega
            have d5 : IntKind.i64.wrap ((q : Int) - 1) = (q : Int) - 1 := by rw [IntKind.wrap_i64]; omega
            generalize ws.getD q 0 = X at *
            generalize ws.getD (q - 1) 0 = Y at *
            generalize shlW ws p s (q + p) = Z at *
            have HOP := Lib.hid hop; clear hop q1 q2 q3 q4
            go_wp2_with fail
            go_region
            all_goals
              go_wp2
              rw [HOP.out]
              go_roundw
              case rel => exact ⟨q, (q : Int) - 1, by omega, by go_num, by omega, Q1, Q2, R, HQ4⟩
              case measure => simp [intOf] <;> omega

end Go.Proofs.Ytiaghdnhapiioaa

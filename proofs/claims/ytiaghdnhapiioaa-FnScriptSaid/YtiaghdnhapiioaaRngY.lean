/-
  The contract of FlipRange, for every range up to 2500; for sets of at most 20000 bits.
-/
import Derived.Test.YtiaghdnhapiioaaRngF
namespace Go.Proofs.Ytiaghdnhapiioaa
set_option linter.unusedSimpArgs false
set_option linter.unusedVariables false
open Go.RowKit

set_option maxHeartbeats 4000000 in
set_option maxRecDepth 100000 in
theorem flipRangeOut_c (b g0 n0 a e : Nat) (f0 : Nat → Bool) (w0 : World) (h0 : BSet w0 b g0 n0 f0) (hn0 : n0 < e) (ha : a < e) (he20 : e ≤ 20000) :
    Calls Try.prog 43 #[.pointer (some ⟨b, 0, none⟩), .int .u64 a, .int .u64 e] w0 fun ex w' => ex = .returned (.pointer (some ⟨b, 0, none⟩)) ∧ ∃ g, BSet w' b g e (fun j => (decide (a ≤ j) && decide (j < e)) ^^ (decide (j < n0) && f0 j)) ∧ (g = g0 ∨ w0.heap.size ≤ g) ∧ Kept [b, g0] w0 w' := by
  have hx0 : w0.cell? ⟨b, 0, none⟩ = some (.int .u64 n0) := by obtain ⟨_, cap, ws, hh, _, _⟩ := h0; exact hh.c0
  have c1 : ¬ (e : Int) ≤ (a : Int) := by omega
  have c2 : (n0 : Int) ≤ (e : Int) - 1 := by omega
  have c3 : IntKind.u64.wrap ((e : Int) - 1) = (e : Int) - 1 := by rw [IntKind.wrap_u64]; omega
  go_enter Try.func43, Try.ntmps43
  go_wp2_with fail
  rw [show (e : Int) - 1 = ((e - 1 : Nat) : Int) by omega]
  refine (extendSet_c b g0 n0 (e - 1) f0 w0 h0 (by omega) (by omega)).mono ?_
  rintro ex w ⟨rfl, g, h, hg, k1⟩
  rw [show e - 1 + 1 = e by omega] at h
  obtain ⟨f, hf⟩ : ∃ f : Nat → Bool, (fun j => decide (j < n0) && f0 j) = f := ⟨_, rfl⟩
  rw [hf] at h
  obtain ⟨n, hnn⟩ : ∃ n, e = n := ⟨e, rfl⟩
  have h : BSet w b g n f := hnn ▸ h
  have he : e ≤ n := by omega
  have hn : n ≤ 20001 := by omega
  have HNN := Lib.hid hnn; have HF := Lib.hid hf
  clear hnn hf hx0 c2 h0
  rw [show ((e - 1 : Nat) : Int) = (e : Int) - 1 by omega]
  obtain ⟨hne, cap, ws, hh, hr, hw⟩ := h
  have hl := hw.length
  have hle := hr.le
  obtain ⟨m, hm⟩ : ∃ m, ws.length = m := ⟨_, rfl⟩
  obtain ⟨p, hp⟩ : ∃ p, a / 64 = p := ⟨_, rfl⟩
  obtain ⟨s, hs⟩ : ∃ s, a % 64 = s := ⟨_, rfl⟩
  obtain ⟨k, hk⟩ : ∃ k, (64 - e % 64) % 64 = k := ⟨_, rfl⟩
  obtain ⟨E, hE⟩ : ∃ E, 18446744073709551616 - e = E := ⟨_, rfl⟩
  have hneg : IntKind.u64.wrap (-(e : Int)) = (E : Int) := by rw [IntKind.wrap_u64]; omega
  have hEk : E % 64 = k := by omega
  have hlo : IntKind.u64.wrap (18446744073709551615 * 2 ^ s) = ((up s ones : Nat) : Int) := wrap_up s ones
  have hhi : (18446744073709551615 : Int) / 2 ^ k = ((down k ones : Nat) : Int) := int_down k ones
  have hLO : up s ones < 2 ^ 64 := up_lt _ _
  have hHI : down k ones < 2 ^ 64 := ones_down_lt _
  have hs64 : s < 64 := by omega
  have hk64 : k < 64 := by omega
  obtain ⟨z, hz⟩ : ∃ z, e / 64 = z := ⟨_, rfl⟩
  obtain ⟨D, hD⟩ : ∃ D, ws.set p (ws.getD p 0 ^^^ (ones ^^^ up (a % 64) ones)) = D := ⟨_, rfl⟩
  have hok := flip_ok hw a e p z ha he hp.symm hz.symm hD.symm _ rfl
  have hDl : D.length = m := by rw [← hD, List.length_set]; exact hm
  have hwl := hw.word
  have hDw : ∀ q, D.getD q 0 < 2 ^ 64 := fun q => by
    rw [← hD, getD_set _ _ _ _ (by omega)]; split
    · exact Nat.xor_lt_two_pow (hwl p) (Nat.xor_lt_two_pow ones_lt (up_lt _ _))
    · exact hwl q
  rw [hm] at hh hle hl
  have hpz : p ≤ z := by omega
  have hpm : p < m := by omega
  have hzm : z ≤ m := by omega
  have e2 : (a : Int) / 64 = (p : Int) := by omega
  have e3 : (e : Int) / 64 = (z : Int) := by omega
  have c1 : ¬ (e : Int) ≤ (a : Int) := by omega
  have c3 : IntKind.u64.wrap ((e : Int) - 1) = (e : Int) - 1 := by rw [IntKind.wrap_u64]; omega
  have hEb : E < 2 ^ 64 := by omega
  have ha64 : a < 2 ^ 64 := by omega
  have hkm : k ≠ 0 → z < m ∧ e % 64 ≠ 0 := by omega
  have hk0 : k = 0 → e % 64 = 0 := by omega
  have hc0 := hh.c0
  have hc1 := hh.c1
  have hxo : bits .xor .u64 18446744073709551615 ((up s ones : Nat) : Int) = ((ones ^^^ up s ones : Nat) : Int) := bits_xor_nat ones _ ones_lt hLO
  have hop : bits .xor .u64 ((ws.getD p 0 : Nat) : Int) ((ones ^^^ up s ones : Nat) : Int) = ((ws.getD p 0 ^^^ (ones ^^^ up s ones) : Nat) : Int) := bits_xor_nat _ _ (hwl p) (Nat.xor_lt_two_pow ones_lt hLO)
  have R := hr.set p (ws.getD p 0 ^^^ (ones ^^^ up s ones))
  rw [hs] at hD
  rw [hD] at R
  have cp := hr.cell p (by omega)
  have fp := hr.free p
  have hV := hh.other (o := p) hne (.int .u64 ((ws.getD p 0 ^^^ (ones ^^^ up s ones) : Nat) : Int))
  have kV := ((Kept.refl [b, g] w).drew).setCell (p := ⟨g, p, none⟩) (by left; simp) (.int .u64 ((ws.getD p 0 ^^^ (ones ^^^ up s ones) : Nat) : Int))
  have HS := Lib.hid hs; have HNEG := Lib.hid hneg; have HEK := Lib.hid hEk; have HLO := Lib.hid hlo; have HHI := Lib.hid hhi; have HM := Lib.hid hm; have HOK := Lib.hid hok; have HDL := Lib.hid hDl; have HDW := Lib.hid hDw; have HXO := Lib.hid hxo; have HOP := Lib.hid hop; have HR := Lib.hid R; have HK := Lib.hid hk; have HKM := Lib.hid hkm; have HK0 := Lib.hid hk0
  clear hs hneg hEk hlo hhi hm hok hDl hDw hxo hop R hk hD hwl hw hp hE hz hl hkm hk0
  generalize ws.getD p 0 ^^^ (ones ^^^ up s ones) = Z at *
  generalize ones ^^^ up s ones = LX at *
  generalize ws.getD p 0 = X at *
  generalize up s ones = LO at *
  have p0 : (0 : Int) ≤ (p : Int) := by omega
  have p1 : (p : Int) < (m : Int) := by omega
  have p2 : (p : Int) ≤ (z : Int) := by omega
  have p3 : (z : Int) ≤ (cap : Int) := by omega
  have p4 : ¬ cap = p := by omega
  have hsn : ((a : Int) % 64).toNat = s := by have := HS.out; omega
  have HSN := Lib.hid hsn; clear hsn
  have hif : (if IntKind.u64.signed = true then (-1 : Int) else IntKind.u64.max) = 18446744073709551615 := rfl
  go_wp2_with fail
  refine wp_region_still_tail 13 (by kernel_rfl) (by kernel_rfl) ?_
  simp only [List.take_succ_cons, List.take_zero, List.drop_succ_cons, List.drop_zero]
  repeat still_step
  still_call (wordsIndex_q a (by omega) _)
  repeat still_step
  refine wpStill_nil ?_
  change wpList _ _ _ _ _ w.drew
  rw [HSN.out, HLO.out, HXO.out, HOP.out]
  clear HXO HOP HLO
  go_wp2_with fail
  go_loopw [53] (fun v wr => ∃ i : Nat, i ≤ z - p ∧ v = .int .i64 i ∧ Kept [b, g] w wr ∧ Hdr wr b n g m cap ∧ URow wr g (part (fun q => decide (p ≤ q) && decide (q < p + i)) (fun q => ones ^^^ D.getD q 0) D) cap) (fun v _ => z - p - (intOf v).toNat)
  case atStart => exact ⟨0, Nat.zero_le _, rfl, kV, hV, by rw [part_none _ _ _ (fun q _ => by by_cases h : p ≤ q; rw [decide_eq_false (show ¬ q < p + 0 by omega), Bool.and_false]; rw [decide_eq_false h]; rfl)]; exact HR.out⟩
  case round =>
    obtain ⟨i, hi, rfl, q1, q2, q3⟩ := hrel
    clear kV hV hh hr hc0 hc1 cp fp HR
    by_cases hip : i < z - p
    · have hip' : (i : Int) < (z : Int) - (p : Int) := by omega
      have d1 := q2.c1
      have cq := q3.cell (p + i) (by rw [part_length, HDL.out]; omega)
      rw [part_getD _ _ _ _ (by rw [HDL.out]; omega), if_neg (by simp)] at cq
      have hf := q3.free (p + i)
      have hxo : bits .xor .u64 18446744073709551615 ((D.getD (p + i) 0 : Nat) : Int) = ((ones ^^^ D.getD (p + i) 0 : Nat) : Int) := bits_xor_nat ones _ ones_lt (HDW.out _)
      have R := q3.set (p + i) (ones ^^^ D.getD (p + i) 0)
      rw [part_set (p' := fun q => decide (p ≤ q) && decide (q < p + (i + 1))) (g' := fun q => ones ^^^ D.getD q 0) (hx := fun _ => ⟨by simp, rfl⟩) (hp := fun q _ hq => ⟨by by_cases h : q < p + i; rw [decide_eq_true h, decide_eq_true (show q < p + (i + 1) by omega)]; rw [decide_eq_false h, decide_eq_false (show ¬ q < p + (i + 1) by omega)], fun _ => rfl⟩)] at R
      have Q1 := q1.drew.setCell (p := ⟨g, p + i, none⟩) (by left; simp) (.int .u64 ((ones ^^^ D.getD (p + i) 0 : Nat) : Int))
      have Q2 := q2.other (o := p + i) hne (.int .u64 ((ones ^^^ D.getD (p + i) 0 : Nat) : Int))
      have b2 : (0 : Int) ≤ (p : Int) + (i : Int) := by omega
      have b3 : (p : Int) + (i : Int) < (m : Int) := by omega
      have b4 : ((p : Int) + (i : Int)).toNat = p + i := by omega
      have b5 : IntKind.i64.wrap ((p : Int) + (i : Int)) = (p : Int) + (i : Int) := by rw [IntKind.wrap_i64]; omega
      generalize ones ^^^ D.getD (p + i) 0 = Y at *
      generalize D.getD (p + i) 0 = X2 at *
      have HXO := Lib.hid hxo; have HR := Lib.hid R; clear hxo q1 q2 q3 R
      go_wp2_with fail
      refine wp_region_still_tail 18 (by kernel_rfl) (by kernel_rfl) ?_
      simp only [List.take_succ_cons, List.take_zero, List.drop_succ_cons, List.drop_zero]
      repeat still_step
      refine wpStill_nil ?_
      change wpList _ _ _ _ _ wr.drew
      rw [HXO.out]
      go_wp2_with fail
      go_roundw
      case rel => exact ⟨i + 1, by omega, by go_num, Q1, Q2, HR.out⟩
      case measure => simp [intOf] <;> omega
    · obtain rfl : i = z - p := by omega
      have hip' : ¬ ((z - p : Nat) : Int) < (z : Int) - (p : Int) := by omega
      have d1 := q2.c1
      rw [show p + (z - p) = z by omega] at q3
      by_cases hkz : k = 0
      · have h9 := HOK.out
        rw [if_pos (HK0.out hkz)] at h9
        have HK9 := Lib.hid h9
        have HKZ : Hid ((k : Int) = 0) := by show _ = _; omega
        clear h9 HOK
        go_wp2_with fail
        rw [HNEG.out]
        refine (wordsIndex_c E (by omega) _).mono ?_
        rintro ex w' ⟨rfl, hw'⟩
        subst w'
        rw [HEK.out, HKZ.out]
        go_wp2_with fail
        go_ret
        have hfin : BSet _ b g n _ := ⟨hne, cap, _, by rw [part_length, HDL.out]; exact q2, q3, HK9.out⟩
        have h9 := HNN.out
        subst h9
        exact ⟨rfl, g, hfin.congr (fun j _ => by rw [← HF.out]), hg, k1.trans (q1) (fun j hj => by simp at hj; rcases hj with h9 | h9 <;> subst h9; left; simp; rcases hg with h9 | h9; left; simp [h9]; right; exact h9)⟩
      · have hkz' : ¬ (k : Int) = 0 := by omega
        obtain ⟨hzm', hez⟩ := HKM.out hkz
        have h9 := HOK.out
        rw [if_neg hez, HK.out] at h9
        have HK9 := Lib.hid h9
        have cz := q3.cell z (by rw [part_length, HDL.out]; omega)
        rw [part_getD _ _ _ _ (by rw [HDL.out]; omega), if_neg (by simp)] at cz
        have hgz : (part (fun q => decide (p ≤ q) && decide (q < z)) (fun q => ones ^^^ D.getD q 0) D).getD z 0 = D.getD z 0 := by rw [part_getD _ _ _ _ (by rw [HDL.out]; omega), if_neg (by simp)]
        rw [hgz] at HK9
        have hf := q3.free z
        have hop : bits .xor .u64 ((D.getD z 0 : Nat) : Int) ((down k ones : Nat) : Int) = ((D.getD z 0 ^^^ down k ones : Nat) : Int) := bits_xor_nat _ _ (HDW.out z) hHI
        have R := q3.set z (D.getD z 0 ^^^ down k ones)
        have Q1 := q1.drew.setCell (p := ⟨g, z, none⟩) (by left; simp) (.int .u64 ((D.getD z 0 ^^^ down k ones : Nat) : Int))
        have Q2 := q2.other (o := z) hne (.int .u64 ((D.getD z 0 ^^^ down k ones : Nat) : Int))
        have b0 : (0 : Int) ≤ (z : Int) := by omega
        have b1 : (z : Int) < (m : Int) := by omega
        have hkk : ((k : Int) % 64).toNat = k := by omega
        have HKK := Lib.hid hkk
        generalize D.getD z 0 ^^^ down k ones = Y at *
        generalize D.getD z 0 = X2 at *
        generalize down k ones = HI at *
        have HOP := Lib.hid hop; have HR := Lib.hid R; clear hop h9 HOK R hgz hkk q1 q2 q3
        go_wp2_with fail
        rw [HNEG.out]
        refine (wordsIndex_c E (by omega) _).mono ?_
        rintro ex w' ⟨rfl, hw'⟩
        subst w'
        rw [HEK.out]
        go_wp2_with fail
        refine wp_region_still_tail 12 (by kernel_rfl) (by kernel_rfl) ?_
        simp only [List.take_succ_cons, List.take_zero, List.drop_succ_cons, List.drop_zero]
        repeat still_step
        still_call (wordsIndex_q k (by omega) _)
        repeat still_step
        refine wpStill_nil ?_
        change wpList _ _ _ _ _ wr.drew
        rw [HKK.out, HHI.out, HOP.out]
        go_wp2_with fail
        go_ret
        have hfin : BSet _ b g n _ := ⟨hne, cap, _, by rw [List.length_set, part_length, HDL.out]; exact Q2, HR.out, HK9.out⟩
        have h9 := HNN.out
        subst h9
        exact ⟨rfl, g, hfin.congr (fun j _ => by rw [← HF.out]), hg, k1.trans (Q1) (fun j hj => by simp at hj; rcases hj with h9 | h9 <;> subst h9; left; simp; rcases hg with h9 | h9; left; simp [h9]; right; exact h9)⟩

set_option maxHeartbeats 1000000 in
theorem flipRange_c (b g n a e : Nat) (f : Nat → Bool) (w : World) (h : BSet w b g n f) (hn : n ≤ 20000) (ha : a ≤ 2500) (he : e ≤ 2500) :
    Calls Try.prog 43 #[.pointer (some ⟨b, 0, none⟩), .int .u64 a, .int .u64 e] w fun ex w' => ex = .returned (.pointer (some ⟨b, 0, none⟩)) ∧ ∃ g', BSet w' b g' (rngN n a e) (fun j => (decide (a ≤ j) && decide (j < e)) ^^ (decide (j < n) && f j)) ∧ (g' = g ∨ w.heap.size ≤ g') ∧ Kept [b, g] w w' := by
  by_cases hae : a < e
  · by_cases hen : e ≤ n
    · rw [rngN_in hae hen]
      refine (flipRangeIn_c b g n a e f w h (by omega) hae hen).mono ?_
      rintro ex w' ⟨rfl, h1, h2⟩
      exact ⟨rfl, g, h1.congr (fun j hj => by rw [decide_eq_true hj, Bool.true_and]), .inl rfl, h2⟩
    · rw [rngN_out hae (by omega)]
      exact (flipRangeOut_c b g n a e f w h (by omega) hae (by omega)).mono fun ex w' h => h
  · rw [rngN_un (by omega)]
    have c1 : (e : Int) ≤ (a : Int) := by omega
    have h1 : BSet w b g n (fun j => (decide (a ≤ j) && decide (j < e)) ^^ (decide (j < n) && f j)) := h.congr fun j hj => by
      rw [decide_eq_true hj, Bool.true_and]
      by_cases h3 : a ≤ j
      · rw [decide_eq_false (show ¬ j < e by omega), Bool.and_false]; simp
      · rw [decide_eq_false h3]; simp
    clear h
    go_enter Try.func43, Try.ntmps43
    go_wp2_with fail
    go_ret
    exact ⟨rfl, g, h1, .inl rfl, Kept.refl _ _⟩

end Go.Proofs.Ytiaghdnhapiioaa

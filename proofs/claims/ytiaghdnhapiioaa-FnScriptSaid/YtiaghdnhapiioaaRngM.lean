/-
  The contract of SetRange; for sets of at most 20000 bits.
-/
import Derived.BigRegion
import Derived.Deep.Cut
import Derived.Test.YtiaghdnhapiioaaRng
import Derived.Test.YtiaghdnhapiioaaOps
namespace Go.Proofs.Ytiaghdnhapiioaa
set_option linter.unusedSimpArgs false
set_option linter.unusedVariables false
open Go.RowKit

set_option maxHeartbeats 4000000 in
set_option maxRecDepth 100000 in
theorem setRangeIn_c (b g n a e : Nat) (f : Nat → Bool) (w : World) (h : BSet w b g n f) (hn : n ≤ 20001) (ha : a < e) (he : e ≤ n) :
    Calls Try.prog 42 #[.pointer (some ⟨b, 0, none⟩), .int .u64 a, .int .u64 e] w fun ex w' => ex = .returned (.pointer (some ⟨b, 0, none⟩)) ∧ BSet w' b g n (fun j => (decide (a ≤ j) && decide (j < e)) || f j) ∧ Kept [b, g] w w' := by
  obtain ⟨hne, cap, ws, hh, hr, hw⟩ := h
  have hok := rng_set_ok hw a e ha he
  have hl := hw.length
  have hle := hr.le
  obtain ⟨m, hm⟩ : ∃ m, ws.length = m := ⟨_, rfl⟩
  obtain ⟨p, hp⟩ : ∃ p, a / 64 = p := ⟨_, rfl⟩
  obtain ⟨s, hs⟩ : ∃ s, a % 64 = s := ⟨_, rfl⟩
  obtain ⟨k, hk⟩ : ∃ k, (64 - e % 64) % 64 = k := ⟨_, rfl⟩
  obtain ⟨E, hE⟩ : ∃ E, 18446744073709551616 - e = E := ⟨_, rfl⟩
  have hneg : IntKind.u64.wrap (-(e : Int)) = (E : Int) := by rw [IntKind.wrap_u64]; omega
  have hEk : E % 64 = k := by omega
  have hlo : IntKind.u64.wrap (18446744073709551615 * 2 ^ s) = ((up s ones : Nat) : Int) := wrap_up s ones
  have hhi : (18446744073709551615 : Int) / 2 ^ k = ((down k ones : Nat) : Int) := int_down k ones
  have hLO : up s ones < 2 ^ 64 := up_lt _ _
  have hHI : down k ones < 2 ^ 64 := ones_down_lt _
  have hs64 : s < 64 := by omega
  have hk64 : k < 64 := by omega
  obtain ⟨z, hz⟩ : ∃ z, (e - 1) / 64 = z := ⟨_, rfl⟩
  have hG : ∀ q, ∃ y, y = ws.getD q 0 ||| rngW a e q := fun q => ⟨_, rfl⟩
  have hGlt : ∀ q, ws.getD q 0 ||| rngW a e q < 2 ^ 64 := fun q => Nat.or_lt_two_pow (hw.word q) (rngW_lt _ _ _)
  have hstart := rng_start ws a e p (fun q => ws.getD q 0 ||| rngW a e q) hp.symm
  have hstep := rng_step ws a e
  have hend := rng_end ws a e z (fun q => ws.getD q 0 ||| rngW a e q) hz.symm
  have hG1 : p = z → ws.getD p 0 ||| rngW a e p = ws.getD p 0 ||| (up s ones &&& down k ones) := fun h1 => by
    have := rngW_one a e (by omega)
    rw [hp, hs, hk] at this; rw [this]
  have hGp : p < z → ws.getD p 0 ||| rngW a e p = ws.getD p 0 ||| up s ones := fun h1 => by
    have := rngW_first a e (by omega)
    rw [hp, hs] at this; rw [this]
  have hGm : ∀ i, p < i → i < z → ws.getD i 0 ||| rngW a e i = ones := fun i h1 h2 => by rw [rngW_mid a e i (by omega) (by omega)]; exact or_ones _ (hw.word i)
  have hGz : p < z → ws.getD z 0 ||| rngW a e z = ws.getD z 0 ||| down k ones := fun h1 => by
    have := rngW_last a e (by omega)
    rw [hz, hk] at this; rw [this]
  have hpl : ∀ i, a / 64 ≤ i ↔ p ≤ i := fun i => by omega
  have hzl : ∀ i, i ≤ (e - 1) / 64 ↔ i ≤ z := fun i => by omega
  have hwl := hw.word
  rw [hm] at hh hle hl
  have hpz : p ≤ z := by omega
  have hzm : z < m := by omega
  have e2 : (a : Int) / 64 = (p : Int) := by omega
  have e3 : ((e : Int) - 1) / 64 = (z : Int) := by omega
  have c1 : ¬ (e : Int) ≤ (a : Int) := by omega
  have c2 : ¬ (n : Int) ≤ (e : Int) - 1 := by omega
  have c3 : IntKind.u64.wrap ((e : Int) - 1) = (e : Int) - 1 := by rw [IntKind.wrap_u64]; omega
  have hEb : E < 2 ^ 64 := by omega
  have ha64 : a < 2 ^ 64 := by omega
  have hc0 := hh.c0
  have hc1 := hh.c1
  have HS := Lib.hid hs; have HNEG := Lib.hid hneg; have HEK := Lib.hid hEk; have HLO := Lib.hid hlo; have HHI := Lib.hid hhi; have HM := Lib.hid hm; have HOK := Lib.hid hok; have HST := Lib.hid hstart; have HSTEP := Lib.hid hstep; have HEND := Lib.hid hend; have HG1 := Lib.hid hG1; have HGP := Lib.hid hGp; have HGM := Lib.hid hGm; have HGZ := Lib.hid hGz; have HPL := Lib.hid hpl; have HZL := Lib.hid hzl; have HWL := Lib.hid hwl; have HGLT := Lib.hid hGlt
  clear hs hneg hEk hlo hhi hm hok hstart hstep hend hG1 hGp hGm hGz hpl hzl hwl hG hGlt hw hp hk hE hz hl
  have cp := hr.cell p (by rw [HM.out]; omega)
  have fp := hr.free p
  obtain ⟨up0, hup0⟩ : ∃ x, up s ones = x := ⟨_, rfl⟩
  rw [hup0] at hLO
  obtain ⟨dn0, hdn0⟩ : ∃ x, down k ones = x := ⟨_, rfl⟩
  rw [hdn0] at hHI
  have HUP := Lib.hid hup0; have HDN := Lib.hid hdn0; clear hup0 hdn0
  have p0 : (0 : Int) ≤ (p : Int) := by omega
  have p1 : (p : Int) < (m : Int) := by omega
  by_cases hpe : p = z
  · subst hpe
    have hop : bits .or .u64 ((ws.getD p 0 : Nat) : Int) (bits .and .u64 (up0 : Int) (dn0 : Int)) = ((ws.getD p 0 ||| rngW a e p : Nat) : Int) := by
      rw [bits_and_nat _ _ hLO hHI, bits_or_nat _ _ (HWL.out p) (Nat.and_lt_two_pow _ hHI), HG1.out rfl, HUP.out, HDN.out]
    have R := hr.set p (ws.getD p 0 ||| rngW a e p)
    have hst : ws.set p (ws.getD p 0 ||| rngW a e p) = part (inW a e) (fun q => ws.getD q 0 ||| rngW a e q) ws := by
      have h1 := HSTEP.out p (fun q => ws.getD q 0 ||| rngW a e q) ((HPL.out p).2 (Nat.le_refl _)) ((HZL.out p).2 (Nat.le_refl _))
      rw [← HST.out, HEND.out] at h1
      exact h1
    rw [hst] at R
    have hV := hh.other (o := p) hne (.int .u64 ((ws.getD p 0 ||| rngW a e p : Nat) : Int))
    have kV := (Kept.refl [b, g] w).setCell (p := ⟨g, p, none⟩) (by left; simp) (.int .u64 ((ws.getD p 0 ||| rngW a e p : Nat) : Int))
    generalize ws.getD p 0 ||| rngW a e p = Z at *
    have HOP := Lib.hid hop; have HR := Lib.hid R; clear hop hst R
    generalize ws.getD p 0 = X at *
    go_enter Try.func42, Try.ntmps42
    go_wp2_with fail
    refine (wordsIndex_c a (by omega) _).mono ?_
    rintro ex w' ⟨rfl, hw'⟩
    subst w'
    rw [HS.out]
    go_wp2_with fail
    rw [HNEG.out, HLO.out]
    refine (wordsIndex_c E (by omega) _).mono ?_
    rintro ex w' ⟨rfl, hw'⟩
    subst w'
    rw [HEK.out]
    go_wp2_with fail
    rw [HHI.out]
    rw [HUP.out, HDN.out]
    go_wp2_with fail
    rw [HOP.out]
    go_wp2_with fail
    go_ret
    exact ⟨rfl, ⟨hne, cap, _, by rw [part_length, HM.out]; exact hV, HR.out, HOK.out⟩, kV⟩
  · have hpz' : p < z := by omega
    have hpe' : ¬ (p : Int) = (z : Int) := by omega
    have hop : bits .or .u64 ((ws.getD p 0 : Nat) : Int) (up0 : Int) = ((ws.getD p 0 ||| rngW a e p : Nat) : Int) := by
      rw [bits_or_nat _ _ (HWL.out p) hLO, HGP.out hpz', HUP.out]
    have R := hr.set p (ws.getD p 0 ||| rngW a e p)
    have hst : ws.set p (ws.getD p 0 ||| rngW a e p) = part (fun q => inW a e q && decide (q < p + 1)) (fun q => ws.getD q 0 ||| rngW a e q) ws := by
      have h1 := HSTEP.out p (fun q => ws.getD q 0 ||| rngW a e q) ((HPL.out p).2 (Nat.le_refl _)) ((HZL.out p).2 (by omega))
      rw [← HST.out] at h1
      exact h1
    rw [hst] at R
    have hV := hh.other (o := p) hne (.int .u64 ((ws.getD p 0 ||| rngW a e p : Nat) : Int))
    have kV := (Kept.refl [b, g] w).setCell (p := ⟨g, p, none⟩) (by left; simp) (.int .u64 ((ws.getD p 0 ||| rngW a e p : Nat) : Int))
    obtain ⟨G, hG⟩ : ∃ G : Nat → Nat, (fun q => ws.getD q 0 ||| rngW a e q) = G := ⟨_, rfl⟩
    have hGi : ∀ i, ws.getD i 0 ||| rngW a e i = G i := fun i => by rw [← hG]
    rw [hG] at R HOK HEND HST
    rw [hGi] at R hV kV hop
    have HGI := Lib.hid hGi
    have HGG := Lib.hid hG
    clear hst hG hGi HST
    generalize G p = Z at *
    generalize ws.getD p 0 = X at *
    have HOP := Lib.hid hop; clear hop hr hh
    go_enter Try.func42, Try.ntmps42
    go_wp2_with fail
    refine (wordsIndex_c a (by omega) _).mono ?_
    rintro ex w' ⟨rfl, hw'⟩
    subst w'
    rw [HS.out]
    go_wp2_with fail
    rw [HNEG.out, HLO.out]
    refine (wordsIndex_c E (by omega) _).mono ?_
    rintro ex w' ⟨rfl, hw'⟩
    subst w'
    rw [HEK.out]
    go_wp2_with fail
    rw [HHI.out]
    rw [HUP.out, HDN.out]
    go_wp2_with fail
    rw [HOP.out]
    go_loopw [11] (fun v wr => ∃ i : Nat, p + 1 ≤ i ∧ i ≤ z ∧ v = .int .u64 i ∧ Kept [b, g] w wr ∧ Hdr wr b n g m cap ∧ URow wr g (part (fun q => inW a e q && decide (q < i)) G ws) cap) (fun v _ => z - (intOf v).toNat)
    case atStart => exact ⟨p + 1, Nat.le_refl _, hpz', by go_num, kV, hV, R⟩
    case round =>
      obtain ⟨i, hi1, hi2, rfl, q1, q2, q3⟩ := hrel
      clear kV hV R hc0 hc1 cp fp
      by_cases hiz : i < z
      · have d1 := q2.c1
        have hf := q3.free i
        obtain ⟨u, hu⟩ := q3.any i (by omega)
        have R : URow (wr.setCell ⟨g, i, none⟩ (.int .u64 18446744073709551615)) g _ cap := q3.set i 18446744073709551615
        have hst := HSTEP.out i G ((HPL.out i).2 (by omega)) ((HZL.out i).2 (by omega))
        rw [show G i = 18446744073709551615 from by rw [← HGI.out]; exact HGM.out i (by omega) hiz] at hst
        rw [hst] at R
        have Q1 := q1.setCell (p := ⟨g, i, none⟩) (by left; simp) (.int .u64 18446744073709551615)
        have Q2 := q2.other (o := i) hne (.int .u64 18446744073709551615)
        have b0 : (0 : Int) ≤ (i : Int) := by omega
        have b1 : (i : Int) < (m : Int) := by omega
        have b2 : IntKind.u64.wrap ((i : Int) + 1) = (i : Int) + 1 := by rw [IntKind.wrap_u64]; omega
        have HR := Lib.hid R; clear q1 q2 q3 hst R
        go_wp2_with fail
        go_roundw
        case rel => exact ⟨i + 1, by omega, by omega, by go_num, Q1, Q2, HR.out⟩
        case measure => simp [intOf] <;> omega
      · obtain rfl : i = z := by omega
        have d1 := q2.c1
        have cz := q3.cell i (by rw [part_length, HM.out]; omega)
        rw [part_getD _ _ _ _ (by rw [HM.out]; omega), if_neg (by simp)] at cz
        have hf := q3.free i
        have hop2 : bits .or .u64 ((ws.getD i 0 : Nat) : Int) (dn0 : Int) = ((G i : Nat) : Int) := by
          rw [bits_or_nat _ _ (HWL.out i) hHI, ← HGI.out, HGZ.out hpz', HDN.out]
        have R := q3.set i (G i)
        have hst := HSTEP.out i G ((HPL.out i).2 (by omega)) ((HZL.out i).2 (Nat.le_refl _))
        rw [hst, HEND.out] at R
        have Q1 := q1.setCell (p := ⟨g, i, none⟩) (by left; simp) (.int .u64 ((G i : Nat) : Int))
        have Q2 := q2.other (o := i) hne (.int .u64 ((G i : Nat) : Int))
        have b0 : (0 : Int) ≤ (i : Int) := by omega
        have b1 : (i : Int) < (m : Int) := by omega
        generalize G i = Z2 at *
        generalize ws.getD i 0 = X2 at *
        have HOP2 := Lib.hid hop2; have HR := Lib.hid R; clear hop2 q1 q2 q3 R hst
        go_wp2_with fail
        rw [HOP2.out]
        go_wp2_with fail
        go_ret
        exact ⟨rfl, ⟨hne, cap, _, by rw [part_length, HM.out]; exact Q2, HR.out, HOK.out⟩, Q1⟩

end Go.Proofs.Ytiaghdnhapiioaa

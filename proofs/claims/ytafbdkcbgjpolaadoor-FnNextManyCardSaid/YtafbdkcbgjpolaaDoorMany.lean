/-
  The contract of NextSetMany, at a buffer of the caller's; for sets of at most 20000 bits.
-/
import Derived.Test.YtafbdkcbgjpolaaDoorMaL
namespace Go.Proofs.YtafbdkcbgjpolaaDoor
set_option linter.unusedSimpArgs false
set_option linter.unusedVariables false
set_option maxRecDepth 100000
open Go.RowKit

set_option maxHeartbeats 8000000 in
set_option maxRecDepth 100000 in
theorem nextMany_c (b g n i gb room : Nat) (f : Nat → Bool) (w : World) (h : BSet w b g n f) (hn : n ≤ 20000) (hi : i ≤ 20000) (hv : VRow w gb [] room) (hgb : gb ≠ b) (hgg : gb ≠ g) (hg0 : gb ≠ 0) (hr1 : 0 < room) (hrb : room ≤ 1000000) (hT : TabW w) (l : List Nat) (hl : (onL n (fromF i n f)).take room = l) :
    Calls Tryd.prog 29 #[.pointer (some ⟨b, 0, none⟩), .int .u64 i, .slice (some ⟨gb, 0, none⟩) room room] w fun e w' => e = .returned (.tuple #[.int .u64 (l.getD (l.length - 1) 0 : Nat), .slice (some ⟨gb, 0, none⟩) l.length room]) ∧ VRow w' gb l room ∧ Kept [gb] w w' := by
  obtain ⟨hne, cap, ws, hh, hr, hw⟩ := h
  have hlw := hw.length
  have hle := hr.le
  obtain ⟨m, hm⟩ : ∃ m, ws.length = m := ⟨_, rfl⟩
  have hC : ∀ q, q < m → w.cell? ⟨g, q, none⟩ = some (.int .u64 (ws.getD q 0 : Nat)) := fun q hq => hr.cell q (by omega)
  have hc1 := hh.c1
  rw [hm] at hc1 hlw hle
  have hm4 : m ≤ 400 := by omega
  obtain ⟨p, hp⟩ : ∃ p, i / 64 = p := ⟨_, rfl⟩
  obtain ⟨s, hs⟩ : ∃ s, i % 64 = s := ⟨_, rfl⟩
  have hs64 : s < 64 := by omega
  have hi64 : i % 64 < 64 := by omega
  have e1 : (i : Int) / 64 = (p : Int) := by omega
  have hfirst := WordB.first hw i
  rw [hp, hs] at hfirst
  have hlater : ∀ x, i ≤ 64 * x → WordB (fromF i n f) (64 * x) (64 * (x + 1)) (64 * x) (ws.getD x 0) := fun x hx => WordB.later hw i x hx
  have hnil : onL i (fromF i n f) = [] := fromF_none i n i f (Nat.le_refl _)
  have hend : onL (64 * m) (fromF i n f) = onL n (fromF i n f) := fromF_end i n _ f (by omega)
  have hout : n ≤ i → l = [] := fun h => by rw [← hl, fromF_none i n n f h]; simp
  obtain ⟨ff, hff⟩ : ∃ ff : Nat → Bool, fromF i n f = ff := ⟨_, rfl⟩
  rw [hff] at hfirst hnil hend hl
  simp only [hff] at hlater
  have htf : ∀ q, q ≤ 64 * m → (onL q ff).length = room → l = onL q ff := fun q hq h => by rw [← hl, ← hend]; exact take_full (64 * m) q ff room hq h
  have hte : (onL (64 * m) ff).length < room → l = onL (64 * m) ff := fun h => by rw [← hl, ← hend]; exact List.take_of_length_le (by omega)
  have hdn := int_down s (ws.getD p 0)
  have r0 : (0 : Int) ≤ (room : Int) := by omega
  have r1 : ¬ (room : Int) = 0 := by omega
  have HC := Lib.hid hC; have HLA := Lib.hid hlater; have HTF := Lib.hid htf; have HTE := Lib.hid hte; have HT := Lib.hid hT; have HFI := Lib.hid hfirst; have HNIL := Lib.hid hnil; have HL := Lib.hid hlw; have HS := Lib.hid hs; have HOUT := Lib.hid hout
  clear hC hlater htf hte hT hfirst hnil hend hl hff hw hr hm hh hlw hout
  by_cases hpm : p < m
  · have hpm' : ¬ (m : Int) ≤ (p : Int) := by omega
    have hpmi : (p : Int) < (m : Int) := by omega
    have hp0 : (0 : Int) ≤ (p : Int) := by omega
    have cp := HC.out p hpm
    have hdn2 : ((ws.getD p 0 : Nat) : Int) / 2 ^ (i % 64) = ((down s (ws.getD p 0) : Nat) : Int) := by rw [HS.out, hdn]
    have HDN := Lib.hid hdn2
    clear hdn hdn2 hs
    generalize down s (ws.getD p 0) = D at *
    generalize ws.getD p 0 = X at *
    go_enter Tryd.func29, Tryd.ntmps29
    go_wp2_with fail
    go_quiet ((go_at_call 37; exact Calls.quiet_of_same (wordsIndex_q i (by omega) _)))
    go_wp2_with fail
    go_loopw [11, 12] (fun y sz wr => ∃ q Y : Nat, WordB ff i (64 * (p + 1)) q Y ∧ y = .int .u64 Y ∧ sz = .int .i64 ((onL q ff).length : Nat) ∧ (onL q ff).length < room ∧ VRow wr gb (onL q ff) room ∧ Kept [gb] w wr) (fun _ sz _ => room - (intOf sz).toNat)
    case atStart => exact ⟨i, D, HFI.out, by rw [HDN.out], by rw [HNIL.out]; rfl, by rw [HNIL.out]; exact hr1, by rw [HNIL.out]; exact hv.drewN _, (Kept.refl _ _).drewN _⟩
    case round =>
      obtain ⟨q, Y, wy, rfl, rfl, hlen, hrowq, kq⟩ := hrel
      have hY := wy.1
      clear cp
      by_cases hY0 : Y = 0
      · have hz := wy.zero hY0
        subst hY0
        rw [← hz] at hrowq hlen ⊢
        clear wy hz
        have f1 : (p : Int) + 1 ≤ (m : Int) := by omega
        have f2 : (m : Int) ≤ (cap : Int) := by omega
        have hc1q := kq.cell (p := ⟨b, 1, none⟩) (by simpa using Ne.symm hgb) hc1
        by_cases hcap : cap = p + 1
        · have hmp : m - (p + 1) = 0 := by omega
          go_wp2_with fail
          go_loopw [12, 82] (fun sz v wr => ∃ k : Nat, k ≤ m - (p + 1) ∧ v = .int .i64 k ∧ sz = .int .i64 ((onL (64 * (p + 1 + k)) ff).length : Nat) ∧ (onL (64 * (p + 1 + k)) ff).length < room ∧ VRow wr gb (onL (64 * (p + 1 + k)) ff) room ∧ Kept [gb] w wr) (fun _ v _ => m - (p + 1) - (intOf v).toNat)
          case atStart => exact ⟨0, Nat.zero_le _, rfl, rfl, hlen, hrowq, kq⟩
          case round =>
            clear hrowq kq hlen
            obtain ⟨k, hk, rfl, rfl, hlen2, hrow, kr⟩ := hrel
            by_cases hkm : k < m - (p + 1)
            · exact absurd hkm (by omega)
            · have hpk : p + 1 + k = m := by omega
              have hkm' : ¬ (k : Int) < ((m - (p + 1) : Nat) : Int) := by omega
              rw [hpk] at hrow hlen2 ⊢
              have RES := HTE.out hlen2
              obtain ⟨LL, hLL⟩ : ∃ LL, (onL (64 * m) ff).length = LL := ⟨_, rfl⟩
              rw [hLL] at hlen2 ⊢
              cases LL with
              | zero =>
                have hnl : onL (64 * m) ff = [] := List.length_eq_zero_iff.1 hLL
                rw [hnl] at hrow RES
                subst RES
                go_wp2_with fail
                go_quiet (fail)
                go_wp2_with fail
                refine bodyPost_ret (v := .tuple #[.int .u64 0, .slice (some ⟨gb, 0, none⟩) 0 room]) (by simp [results, Tryd.results29, go_sem]) rfl ⟨rfl, hrow.drewN _, kr.drewN _⟩
              | succ j =>
                have hlast := hrow.cell j (by omega)
                have j0 : (0 : Int) ≤ (j : Int) := by omega
                have j1 : (j : Int) < (room : Int) := by omega
                have j2 : (j : Int) + 1 ≤ (room : Int) := by omega
                have j3 : (j : Int) + 1 - 1 = (j : Int) := by omega
                have HLL := Lib.hid hLL; clear hLL
                subst RES
                have HR := Lib.hid hrow; clear hrow
                obtain ⟨z, hz⟩ : ∃ z, (onL (64 * m) ff).getD j 0 = z := ⟨_, rfl⟩
                rw [hz] at hlast
                have HZ := Lib.hid hz; clear hz
                go_wp2_with fail
                go_quiet (fail)
                go_wp2_with fail
                refine bodyPost_ret (v := .tuple #[.int .u64 z, .slice (some ⟨gb, 0, none⟩) (j + 1) room]) (by simp [results, Tryd.results29, go_sem]) rfl ⟨by rw [HLL.out, Nat.add_sub_cancel, HZ.out], HR.out.drewN _, kr.drewN _⟩
        · go_wp2_with fail
          go_loopw [12, 82] (fun sz v wr => ∃ k : Nat, k ≤ m - (p + 1) ∧ v = .int .i64 k ∧ sz = .int .i64 ((onL (64 * (p + 1 + k)) ff).length : Nat) ∧ (onL (64 * (p + 1 + k)) ff).length < room ∧ VRow wr gb (onL (64 * (p + 1 + k)) ff) room ∧ Kept [gb] w wr) (fun _ v _ => m - (p + 1) - (intOf v).toNat)
          case atStart => exact ⟨0, Nat.zero_le _, rfl, rfl, hlen, hrowq, kq⟩
          case round =>
            clear hrowq kq hlen
            obtain ⟨k, hk, rfl, rfl, hlen2, hrow, kr⟩ := hrel
            by_cases hkm : k < m - (p + 1)
            · have cX := kr.cell (p := ⟨g, p + 1 + k, none⟩) (by simpa using Ne.symm hgg) (HC.out (p + 1 + k) (by omega))
              have wa := HLA.out (p + 1 + k) (by omega)
              generalize ws.getD (p + 1 + k) 0 = Y0 at *
              have b0 : (0 : Int) ≤ (k : Int) := by omega
              have b1 : (k : Int) < ((m - (p + 1) : Nat) : Int) := by omega
              go_wp2_with fail
              go_loopw [12, 14] (fun sz v wq => ∃ q Y : Nat, WordB ff (64 * (p + 1 + k)) (64 * (p + 1 + k + 1)) q Y ∧ v = .int .u64 Y ∧ sz = .int .i64 ((onL q ff).length : Nat) ∧ (onL q ff).length < room ∧ VRow wq gb (onL q ff) room ∧ Kept [gb] w wq) (fun sz _ _ => room - (intOf sz).toNat)
              case atStart => exact ⟨64 * (p + 1 + k), Y0, wa, rfl, rfl, hlen2, hrow, kr⟩
              case round =>
                clear hlen2 hrow kr wa cX
                obtain ⟨q, Y, wy, rfl, rfl, hlen, hrowq, kq⟩ := hrel
                have hY := wy.1
                by_cases hY0 : Y = 0
                · have hz := wy.zero hY0
                  subst hY0
                  rw [← hz] at hrowq hlen ⊢
                  clear wy hz
                  go_wp2_with fail
                  go_roundw
                  case rel => exact ⟨k + 1, by omega, by go_num, rfl, hlen, hrowq, kq⟩
                  case measure => simp [intOf] <;> omega
                · obtain ⟨c1, c2, c3, c4, c5⟩ := wy.next hY0
                  have hsi := strike_int Y hY hY0
                  obtain ⟨c, hc⟩ : ∃ c, Lib.ctz 64 Y = c := ⟨_, rfl⟩
                  rw [hc] at c1 c2 c3 c4 c5
                  have hpush := hrowq.push (64 * (p + 1 + k) + c) hlen
                  rw [← c4] at hpush
                  obtain ⟨u, hu⟩ := hrowq.any _ hlen
                  have hf := hrowq.free (onL q ff).length
                  have KP := kq.setCell (p := ⟨gb, (onL q ff).length, none⟩) (by left; simp) (.int .u64 ((64 * (p + 1 + k) + c : Nat) : Int))
                  have hlen2 : (onL (64 * (p + 1 + k) + c + 1) ff).length = (onL q ff).length + 1 := by rw [c4, List.length_append]; rfl
                  have hlast := hpush.cell (onL q ff).length (by omega)
                  have hgl : (onL (64 * (p + 1 + k) + c + 1) ff).getD (onL q ff).length 0 = 64 * (p + 1 + k) + c := by rw [c4]; simp
                  rw [hgl] at hlast
                  have HLEN := Lib.hid hlen2
                  clear hlen2
                  generalize hLL : (onL q ff).length = LL at *
                  have l0 : (0 : Int) ≤ (LL : Int) := by omega
                  have l1 : (LL : Int) < (room : Int) := by omega
                  have hY1 : ¬ (Y : Int) = 0 := by omega
                  have hY2 : IntKind.u64.wrap ((Y : Int) - 1) = (Y : Int) - 1 := by rw [IntKind.wrap_u64]; omega
                  have HCC := Lib.hid hc; have HSI := Lib.hid hsi; have HP := Lib.hid hpush; have HC4 := Lib.hid c5; have HGL := Lib.hid hgl
                  have hTq := HT.out.kept kq (by simpa using Ne.symm hg0)
                  clear hc hsi hpush c4 c5 hLL wy hrowq hgl
                  go_wp2_with fail
                  refine (tz_c Y hY hY0 _ hTq).mono ?_
                  rintro e w' ⟨rfl, hw'⟩
                  subst hw'
                  rw [HCC.out]
                  by_cases hfull : LL + 1 = room
                  · have hfull' : (LL : Int) + 1 = (room : Int) := by omega
                    have RES := HTF.out (64 * (p + 1 + k) + c + 1) (by omega) (by rw [HLEN.out]; exact hfull)
                    have ELL : (room : Int) - 1 = (LL : Int) := by omega
                    go_wp2_with fail
                    go_quiet (fail)
                    go_wp2_with fail
                    subst RES
                    have E64 : ((p : Int) + 1 + (k : Int)) * 64 + (c : Int) = ((64 * (p + 1 + k) + c : Nat) : Int) := by omega
                    have HP' := HP.out; have KP' := KP
                    rw [← E64] at HP' KP'
                    refine bodyPost_ret (v := .tuple #[.int .u64 (((p : Int) + 1 + (k : Int)) * 64 + (c : Int)), .slice (some ⟨gb, 0, none⟩) room room]) (by simp [results, Tryd.results29, go_sem]) rfl ⟨by rw [HLEN.out, Nat.add_sub_cancel, HGL.out, hfull, E64], HP'.drewN _, KP'.drewN _⟩
                  · have hfull' : ¬ (LL : Int) + 1 = (room : Int) := by omega
                    go_wp2_with fail
                    have E64 : ((p : Int) + 1 + (k : Int)) * 64 + (c : Int) = ((64 * (p + 1 + k) + c : Nat) : Int) := by omega
                    have HP' := HP.out; have KP' := KP
                    rw [← E64] at HP' KP'
                    refine ⟨?_, ?measure⟩
                    (repeat apply Exists.intro)
                    refine ⟨?rel, rfl⟩
                    case rel => exact ⟨64 * (p + 1 + k) + c + 1, Y &&& (Y - 1), HC4.out, by rw [HSI.out], by rw [HLEN.out]; rfl, by rw [HLEN.out]; omega, HP', KP'⟩
                    case measure =>
                      show room - Int.toNat ((LL : Int) + 1) < room - Int.toNat (LL : Int)
                      omega
            · have hpk : p + 1 + k = m := by omega
              have hkm' : ¬ (k : Int) < ((m - (p + 1) : Nat) : Int) := by omega
              rw [hpk] at hrow hlen2 ⊢
              have RES := HTE.out hlen2
              obtain ⟨LL, hLL⟩ : ∃ LL, (onL (64 * m) ff).length = LL := ⟨_, rfl⟩
              rw [hLL] at hlen2 ⊢
              cases LL with
              | zero =>
                have hnl : onL (64 * m) ff = [] := List.length_eq_zero_iff.1 hLL
                rw [hnl] at hrow RES
                subst RES
                go_wp2_with fail
                go_quiet (fail)
                go_wp2_with fail
                refine bodyPost_ret (v := .tuple #[.int .u64 0, .slice (some ⟨gb, 0, none⟩) 0 room]) (by simp [results, Tryd.results29, go_sem]) rfl ⟨rfl, hrow.drewN _, kr.drewN _⟩
              | succ j =>
                have hlast := hrow.cell j (by omega)
                have j0 : (0 : Int) ≤ (j : Int) := by omega
                have j1 : (j : Int) < (room : Int) := by omega
                have j2 : (j : Int) + 1 ≤ (room : Int) := by omega
                have j3 : (j : Int) + 1 - 1 = (j : Int) := by omega
                have HLL := Lib.hid hLL; clear hLL
                subst RES
                have HR := Lib.hid hrow; clear hrow
                obtain ⟨z, hz⟩ : ∃ z, (onL (64 * m) ff).getD j 0 = z := ⟨_, rfl⟩
                rw [hz] at hlast
                have HZ := Lib.hid hz; clear hz
                go_wp2_with fail
                go_quiet (fail)
                go_wp2_with fail
                refine bodyPost_ret (v := .tuple #[.int .u64 z, .slice (some ⟨gb, 0, none⟩) (j + 1) room]) (by simp [results, Tryd.results29, go_sem]) rfl ⟨by rw [HLL.out, Nat.add_sub_cancel, HZ.out], HR.out.drewN _, kr.drewN _⟩
      · obtain ⟨c1, c2, c3, c4, c5⟩ := wy.next hY0
        have hsi := strike_int Y hY hY0
        obtain ⟨c, hc⟩ : ∃ c, Lib.ctz 64 Y = c := ⟨_, rfl⟩
        rw [hc] at c1 c2 c3 c4 c5
        have hpush := hrowq.push (i + c) hlen
        rw [← c4] at hpush
        obtain ⟨u, hu⟩ := hrowq.any _ hlen
        have hf := hrowq.free (onL q ff).length
        have KP := kq.setCell (p := ⟨gb, (onL q ff).length, none⟩) (by left; simp) (.int .u64 ((i + c : Nat) : Int))
        have hlen2 : (onL (i + c + 1) ff).length = (onL q ff).length + 1 := by rw [c4, List.length_append]; rfl
        have hlast := hpush.cell (onL q ff).length (by omega)
        have hgl : (onL (i + c + 1) ff).getD (onL q ff).length 0 = i + c := by rw [c4]; simp
        rw [hgl] at hlast
        have HLEN := Lib.hid hlen2
        clear hlen2
        generalize hLL : (onL q ff).length = LL at *
        have l0 : (0 : Int) ≤ (LL : Int) := by omega
        have l1 : (LL : Int) < (room : Int) := by omega
        have hY1 : ¬ (Y : Int) = 0 := by omega
        have hY2 : IntKind.u64.wrap ((Y : Int) - 1) = (Y : Int) - 1 := by rw [IntKind.wrap_u64]; omega
        have HCC := Lib.hid hc; have HSI := Lib.hid hsi; have HP := Lib.hid hpush; have HC4 := Lib.hid c5; have HGL := Lib.hid hgl
        have hTq := HT.out.kept kq (by simpa using Ne.symm hg0)
        clear hc hsi hpush c4 c5 hLL wy hrowq hgl
        go_wp2_with fail
        refine (tz_c Y hY hY0 _ hTq).mono ?_
        rintro e w' ⟨rfl, hw'⟩
        subst hw'
        rw [HCC.out]
        by_cases hfull : LL + 1 = room
        · have hfull' : (LL : Int) + 1 = (room : Int) := by omega
          have RES := HTF.out (i + c + 1) (by omega) (by rw [HLEN.out]; exact hfull)
          have ELL : (room : Int) - 1 = (LL : Int) := by omega
          go_wp2_with fail
          go_quiet (fail)
          go_wp2_with fail
          subst RES
          have E64 : (i : Int) + (c : Int) = ((i + c : Nat) : Int) := by omega
          have HP' := HP.out; have KP' := KP
          rw [← E64] at HP' KP'
          refine bodyPost_ret (v := .tuple #[.int .u64 ((i : Int) + (c : Int)), .slice (some ⟨gb, 0, none⟩) room room]) (by simp [results, Tryd.results29, go_sem]) rfl ⟨by rw [HLEN.out, Nat.add_sub_cancel, HGL.out, hfull, E64], HP'.drewN _, KP'.drewN _⟩
        · have hfull' : ¬ (LL : Int) + 1 = (room : Int) := by omega
          go_wp2_with fail
          have E64 : (i : Int) + (c : Int) = ((i + c : Nat) : Int) := by omega
          have HP' := HP.out; have KP' := KP
          rw [← E64] at HP' KP'
          refine ⟨?_, ?measure⟩
          (repeat apply Exists.intro)
          refine ⟨?rel, rfl⟩
          case rel => exact ⟨i + c + 1, Y &&& (Y - 1), HC4.out, by rw [HSI.out], by rw [HLEN.out]; rfl, by rw [HLEN.out]; omega, HP', KP'⟩
          case measure =>
            show room - Int.toNat ((LL : Int) + 1) < room - Int.toNat (LL : Int)
            omega
  · have hpm' : (m : Int) ≤ (p : Int) := by omega
    have hl0 := HOUT.out (by have := HL.out; omega)
    subst hl0
    go_enter Tryd.func29, Tryd.ntmps29
    go_wp2_with fail
    go_quiet (fail)
    go_wp2_with fail
    refine bodyPost_ret (v := .tuple #[.int .u64 0, .slice (some ⟨gb, 0, none⟩) 0 room]) (by simp [results, Tryd.results29, go_sem]) rfl ⟨rfl, hv.drewN _, (Kept.refl _ _).drewN _⟩

end Go.Proofs.YtafbdkcbgjpolaaDoor

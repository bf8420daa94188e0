/-
  The contract of AsSlice, at a buffer of the caller's with room enough; for sets of at most 20000 bits.
-/
import Derived.Test.YtafbdkcbgjpolaaDoorVRow
namespace Go.Proofs.YtafbdkcbgjpolaaDoor
set_option linter.unusedSimpArgs false
set_option linter.unusedVariables false
set_option maxRecDepth 100000
open Go.RowKit

set_option maxHeartbeats 4000000 in
set_option maxRecDepth 100000 in
theorem asSlice_c (b g n gb room : Nat) (f : Nat → Bool) (w : World) (h : BSet w b g n f) (hn : n ≤ 20000) (hv : VRow w gb [] room) (hgb : gb ≠ b) (hgg : gb ≠ g) (hg0 : gb ≠ 0) (hroom : (onL n f).length ≤ room) (hrb : room ≤ 1000000) (hT : TabW w) :
    Calls Tryd.prog 32 #[.pointer (some ⟨b, 0, none⟩), .slice (some ⟨gb, 0, none⟩) 0 room] w fun e w' => e = .returned (.slice (some ⟨gb, 0, none⟩) (onL n f).length room) ∧ VRow w' gb (onL n f) room ∧ Kept [gb] w w' := by
  obtain ⟨hne, cap, ws, hh, hr, hw⟩ := h
  have hl := hw.length
  have hle := hr.le
  obtain ⟨m, hm⟩ : ∃ m, ws.length = m := ⟨_, rfl⟩
  have hC : ∀ q, q < m → w.cell? ⟨g, q, none⟩ = some (.int .u64 (ws.getD q 0 : Nat)) := fun q hq => hr.cell q (by omega)
  have hWA := WordAt.start hw
  have hc1 := hh.c1
  rw [hm] at hc1 hl
  have hm4 : m ≤ 400 := by omega
  obtain ⟨ff, hff⟩ : ∃ ff : Nat → Bool, (fun j => decide (j < n) && f j) = ff := ⟨_, rfl⟩
  rw [hff] at hWA
  have hfin : onL (64 * m) ff = onL n f := by
    rw [← hff]
    refine onL_both _ _ _ _ fun j => ?_
    by_cases h : j < n
    · rw [decide_eq_true h, decide_eq_true (show j < 64 * m by omega)]; rfl
    · rw [decide_eq_false h, Bool.false_and, Bool.and_false]
  have hroom2 : ∀ p, p ≤ 64 * m → (onL p ff).length ≤ room := fun p hp => Nat.le_trans (onL_mono ff p (64 * m) hp) (by rw [hfin]; exact hroom)
  have HC := Lib.hid hC; have HWA := Lib.hid hWA; have HFIN := Lib.hid hfin; have HRO := Lib.hid hroom2; have HT := Lib.hid hT; have HH := Lib.hid hh
  clear hC hWA hff hfin hroom2 hroom hT hw hr hm hl hh
  have r0 : (0 : Int) ≤ (room : Int) := by omega
  go_enter Tryd.func32, Tryd.ntmps32
  go_wp2_with fail
  go_loopw [5, 17] (fun sz v wr => ∃ x : Nat, x ≤ m ∧ v = .int .i64 x ∧ sz = .int .i64 ((onL (64 * x) ff).length : Nat) ∧ VRow wr gb (onL (64 * x) ff) room ∧ Kept [gb] w wr) (fun _ v _ => m - (intOf v).toNat)
  case atStart => exact ⟨0, Nat.zero_le _, rfl, rfl, hv, Kept.refl _ _⟩
  case round =>
    obtain ⟨x, hx, rfl, rfl, hrow, kr⟩ := hrel
    by_cases hxm : x < m
    · have cX := kr.cell (p := ⟨g, x, none⟩) (by simpa using Ne.symm hgg) (HC.out x hxm)
      have wa := HWA.out x
      generalize ws.getD x 0 = X at *
      have hx0 : (0 : Int) ≤ (x : Int) := by omega
      have hxm' : (x : Int) < (m : Int) := by omega
      go_wp2_with fail
      go_loopw [5, 7] (fun sz v wq => ∃ p Y : Nat, WordAt ff x p Y ∧ v = .int .u64 Y ∧ sz = .int .i64 ((onL p ff).length : Nat) ∧ VRow wq gb (onL p ff) room ∧ Kept [gb] w wq) (fun sz _ _ => room + 1 - (intOf sz).toNat)
      case atStart => exact ⟨64 * x, X, wa, rfl, rfl, hrow, kr⟩
      case round =>
        obtain ⟨p, Y, wy, rfl, rfl, hrowq, kq⟩ := hrel
        have hY := wy.1
        by_cases hY0 : Y = 0
        · have hz := wy.zero hY0
          subst hY0
          rw [← hz] at hrowq ⊢
          clear hrow kr cX
          go_wp2_with fail
          go_roundw
          case rel => exact ⟨x + 1, by omega, by go_num, rfl, hrowq, kq⟩
          case measure => simp [intOf] <;> omega
        · obtain ⟨c1, c2, c3, c4⟩ := wy.next hY0
          have hsi := strike_int Y hY hY0
          obtain ⟨c, hc⟩ : ∃ c, Lib.ctz 64 Y = c := ⟨_, rfl⟩
          rw [hc] at c1 c2 c3 c4
          have hlen : (onL p ff).length < room := by
            have := HRO.out (64 * x + c + 1) (by omega)
            rw [c3, List.length_append] at this
            exact this
          have hpush := hrowq.push (64 * x + c) hlen
          rw [← c3] at hpush
          obtain ⟨u, hu⟩ := hrowq.any _ hlen
          have hf := hrowq.free (onL p ff).length
          have KP := kq.setCell (p := ⟨gb, (onL p ff).length, none⟩) (by left; simp) (.int .u64 ((64 * x + c : Nat) : Int))
          have hlen2 : (onL (64 * x + c + 1) ff).length = (onL p ff).length + 1 := by rw [c3, List.length_append]; rfl
          have HLEN := Lib.hid hlen2
          clear hlen2
          generalize hLL : (onL p ff).length = LL at *
          have l0 : (0 : Int) ≤ (LL : Int) := by omega
          have l1 : (LL : Int) < (room : Int) := by omega
          have hY1 : ¬ (Y : Int) = 0 := by omega
          have hY2 : IntKind.u64.wrap ((Y : Int) - 1) = (Y : Int) - 1 := by rw [IntKind.wrap_u64]; omega
          have HCC := Lib.hid hc; have HSI := Lib.hid hsi; have HP := Lib.hid hpush; have HC4 := Lib.hid c4
          have hTq := HT.out.kept kq (by simpa using Ne.symm hg0)
          clear hc hsi hpush c3 c4 hLL wy hrowq hrow kr cX
          go_wp2_with fail
          refine (tz_c Y hY hY0 _ hTq).mono ?_
          rintro e w' ⟨rfl, hw'⟩
          subst hw'
          rw [HCC.out]
          have hb1 : (64 * x + c : Nat) < 2 ^ 63 := by omega
          go_wp2_with fail
          have e64 : (x : Int) * 64 + (c : Int) = ((64 * x + c : Nat) : Int) := by omega
          rw [e64, HSI.out]
          refine ⟨⟨64 * x + c + 1, Y &&& (Y - 1), HC4.out, rfl, ?_, HP.out, KP⟩, ?_⟩
          · rw [HLEN.out]; rfl
          · simp only [intOf]; omega
    · obtain rfl : x = m := by omega
      have hxm2 : ¬ (x : Int) < (x : Int) := by omega
      have hl1 := HRO.out (64 * x) (Nat.le_refl _)
      rw [HFIN.out] at hrow hl1 ⊢
      generalize hLL : (onL n f).length = LL at *
      have l0 : (0 : Int) ≤ (LL : Int) := by omega
      have l1 : (LL : Int) ≤ (room : Int) := by omega
      go_wp2_with fail
      go_ret
      exact ⟨rfl, hrow, kr⟩

end Go.Proofs.YtafbdkcbgjpolaaDoor

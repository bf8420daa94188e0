/-
  The contract of AppendTo, at a row of the caller's own; for sets of at most 20000 bits.
-/
import Derived.Maps.AppendAt
import Derived.Test.YtafbdkcbgjpolaaDoorAsS
namespace Go.Proofs.YtafbdkcbgjpolaaDoor
set_option linter.unusedSimpArgs false
set_option linter.unusedVariables false
set_option maxRecDepth 100000
open Go.RowKit

theorem Tryd.infoVa : (Tryd.prog.info? 48).map (fun i => (i.zero, i.size, i.bytes)) = some (some (.int .u64 0), 1, 8) := by kernel_rfl
set_option maxHeartbeats 4000000 in
set_option maxRecDepth 100000 in
theorem appendTo_c (b g n B gb : Nat) (f : Nat → Bool) (l0 : List Nat) (v0 : Value) (w : World) (h : BSet w b g n f) (hn : n ≤ 20000) (hown0 : w.ownsRow B 48 1 v0 l0.length (u64s l0)) (hB : B ≤ w.heap.size) (hv0 : ∀ j, v0.ownBlock = some j → j = gb) (hgb : gb ≠ b) (hgg : gb ≠ g) (hg0 : gb ≠ 0) (hl0 : l0.length ≤ 1000000) (hT : TabW w) (l : List Nat) (hres : l0 ++ onL n f = l) :
    Calls Tryd.prog 31 #[.pointer (some ⟨b, 0, none⟩), v0] w fun e w' => ∃ v, e = .returned v ∧ w'.ownsRow B 48 1 v l.length (u64s l) ∧ Kept [gb] w w' ∧ ∀ j, v.ownBlock = some j → j = gb ∨ w.heap.size ≤ j := by
  obtain ⟨hne, cap, ws, hh, hr, hw⟩ := h
  have hl := hw.length
  have hle := hr.le
  obtain ⟨m, hm⟩ : ∃ m, ws.length = m := ⟨_, rfl⟩
  have hC : ∀ q, q < m → w.cell? ⟨g, q, none⟩ = some (.int .u64 (ws.getD q 0 : Nat)) := fun q hq => hr.cell q (by omega)
  have hWA := WordAt.start hw
  have hc1 := hh.c1
  rw [hm] at hc1 hl
  have hm4 : m ≤ 400 := by omega
  obtain ⟨i0, hi0, hz0, hz1, hz2⟩ := info_parts Tryd.infoVa
  obtain ⟨ff, hff⟩ : ∃ ff : Nat → Bool, (fun j => decide (j < n) && f j) = ff := ⟨_, rfl⟩
  rw [hff] at hWA
  have hfin : onL (64 * m) ff = onL n f := by
    rw [← hff]
    refine onL_both _ _ _ _ fun j => ?_
    by_cases h : j < n
    · rw [decide_eq_true h, decide_eq_true (show j < 64 * m by omega)]; rfl
    · rw [decide_eq_false h, Bool.false_and, Bool.and_false]
  have HC := Lib.hid hC; have HWA := Lib.hid hWA; have HFIN := Lib.hid hfin; have HT := Lib.hid hT; have HRES := Lib.hid hres
  clear hC hWA hff hfin hT hw hr hm hl hh hres
  go_enter Tryd.func31, Tryd.ntmps31
  go_wp2_with fail
  go_loopw [1, 12] (fun v j wr => ∃ x : Nat, x ≤ m ∧ j = .int .i64 x ∧ wr.ownsRow B 48 1 v (l0 ++ onL (64 * x) ff).length (u64s (l0 ++ onL (64 * x) ff)) ∧ Kept [gb] w wr ∧ ∀ j, v.ownBlock = some j → j = gb ∨ w.heap.size ≤ j) (fun _ j _ => m - (intOf j).toNat)
  case atStart => exact ⟨0, Nat.zero_le _, rfl, by simpa [onL] using hown0, Kept.refl _ _, fun j hj => .inl (hv0 j hj)⟩
  case round =>
    obtain ⟨x, hx, rfl, hown, kr, hob⟩ := hrel
    by_cases hxm : x < m
    · have cX := kr.cell (p := ⟨g, x, none⟩) (by simpa using Ne.symm hgg) (HC.out x hxm)
      have wa := HWA.out x
      generalize ws.getD x 0 = X at *
      have hx0 : (0 : Int) ≤ (x : Int) := by omega
      have hxm' : (x : Int) < (m : Int) := by omega
      go_wp2_with fail
      go_loopw [1, 6] (fun v y wq => ∃ p Y : Nat, WordAt ff x p Y ∧ y = .int .u64 Y ∧ wq.ownsRow B 48 1 v (l0 ++ onL p ff).length (u64s (l0 ++ onL p ff)) ∧ Kept [gb] w wq ∧ ∀ j, v.ownBlock = some j → j = gb ∨ w.heap.size ≤ j) (fun _ y _ => (intOf y).toNat)
      case atStart => exact ⟨64 * x, X, wa, rfl, hown, kr, hob⟩
      case round =>
        obtain ⟨p, Y, wy, rfl, hownq, kq, hobq⟩ := hrel
        have hY := wy.1
        by_cases hY0 : Y = 0
        · have hz := wy.zero hY0
          subst hY0
          rw [← hz] at hownq
          have HO := Lib.hid hownq; have HOB := Lib.hid hobq
          clear hownq hobq hown hob kr cX wa wy hz
          go_wp2_with fail
          go_roundw
          case rel => exact ⟨x + 1, by omega, by go_num, HO.out, kq, HOB.out⟩
          case measure => simp [intOf] <;> omega
        · obtain ⟨c1, c2, c3, c4⟩ := wy.next hY0
          have hsi := strike_int Y hY hY0
          have hp1 := wy.2.1
          have hp2 := wy.2.2.1
          obtain ⟨c, hc⟩ : ∃ c, Lib.ctz 64 Y = c := ⟨_, rfl⟩
          rw [hc] at c1 c2 c3 c4
          have hll := onL_le p ff
          have hlt2 : Y &&& (Y - 1) < Y := Nat.lt_of_le_of_lt Nat.and_le_right (by omega)
          have hG2 : l0 ++ onL (64 * x + c + 1) ff = (l0 ++ onL p ff) ++ [64 * x + c] := by rw [c3, List.append_assoc]
          have hgl : (l0 ++ onL p ff).length ≤ 1100000 := by rw [List.length_append]; omega
          obtain ⟨G, hG⟩ : ∃ G, l0 ++ onL p ff = G := ⟨_, rfl⟩
          rw [hG] at hownq hG2 hgl
          obtain ⟨adw, lnw, cpw, rfl⟩ := slice_of_owns hownq
          have hY1 : ¬ (Y : Int) = 0 := by omega
          have hY2 : IntKind.u64.wrap ((Y : Int) - 1) = (Y : Int) - 1 := by rw [IntKind.wrap_u64]; omega
          have HCC := Lib.hid hc; have HSI := Lib.hid hsi; have HC4 := Lib.hid c4; have HG2 := Lib.hid hG2; have HLT := Lib.hid hlt2
          have hTq := HT.out.kept kq (by simpa using Ne.symm hg0)
          clear hc hsi c3 c4 wy hown hob kr cX wa hG hG2 hlt2 hll c2 hp1 hp2
          go_wp2_with fail
          refine (tz_c Y hY hY0 _ hTq).mono ?_
          rintro e w' ⟨rfl, hw'⟩
          subst hw'
          rw [HCC.out]
          have hb1 : (64 * x + c : Nat) < 2 ^ 63 := by omega
          have e64 : (x : Int) * 64 + (c : Int) = ((64 * x + c : Nat) : Int) := by omega
          go_wp2_with (at_builtin; refine wpList_append_own_at _ rfl _ _ 53 rfl B 48 i0 (.int .u64 0) 1 8 Tryd.underlying53 hi0 hz0 hz1 hz2 rfl (by decide) _ _ _ rfl (World.ownsRow.alloc hownq _) ⟨w'.heap.size, 0, none⟩ 1 1 [.int .u64 (64 * (x : Int) + (c : Int))] rfl rfl ?c1 ?c2 ?c3 ?c4 ?c5 ?_)
          case c1 => exact cell_one_new _ _ _
          case c2 => intro u hu; simp at hu; subst hu; rfl
          case c3 => unfold maxLen; omega
          case c4 => omega
          case c5 => have := kq.size; simp; omega
          intro v' w9 hown' hgrow _ hob'
          have R : w9.ownsRow B 48 1 v' (l0 ++ onL (64 * x + c + 1) ff).length (u64s (l0 ++ onL (64 * x + c + 1) ff)) := by
            rw [HG2.out, List.length_append, u64s_append]; rw [show 64 * (x : Int) + (c : Int) = ((64 * x + c : Nat) : Int) by omega] at hown'; exact hown'
          have KR : Kept [gb] w w9 := (kq.alloc _).grown hgrow (fun j hj => by rcases hobq j hj with h | h; left; simp [h]; right; exact h)
          have HOB : Hid (∀ j, v'.ownBlock = some j → j = gb ∨ w.heap.size ≤ j) := Lib.hid fun j hj => by
            rcases hob' with h | h
            · rw [h] at hj; exact hobq j hj
            · rw [h] at hj; simp at hj; have := kq.size; right; omega
          have HR := Lib.hid R; clear hown' hgrow hownq R hobq hob' hTq
          obtain ⟨ad9, ln9, cp9, rfl⟩ := slice_of_owns HR.out
          go_wp2_with fail
          rw [HSI.out]
          refine ⟨⟨64 * x + c + 1, Y &&& (Y - 1), HC4.out, rfl, HR.out, KR, HOB.out⟩, ?_⟩
          simp only [intOf]
          have := HLT.out; omega
    · obtain rfl : x = m := by omega
      have hxm2 : ¬ (x : Int) < (x : Int) := by omega
      rw [HFIN.out, HRES.out] at hown
      have HOB := Lib.hid hob; have HO := Lib.hid hown; clear hob hown
      go_wp2_with fail
      go_ret
      exact ⟨u1, rfl, HO.out, kr, HOB.out⟩

end Go.Proofs.YtafbdkcbgjpolaaDoor

/-
  The contract of EachSet's iterator: all set bits in ascending order, or the first of them where a round says no more; for sets of at most 20000 bits.
-/
import Derived.RangeFuncNested
import Derived.RangeFuncBound
import Derived.RangeFuncCalls
import Derived.RangeFuncLeaves
import Derived.RangeFuncBox
import Derived.Shelf.Abstract
import Derived.Shelf.RegionOpen
import Derived.OwnWalkIn
import Derived.TacticsInMore
import Derived.LoopNIn
import Derived.LoopIn
import Derived.Maps.AppendAt
import Derived.Test.YtafbdkcbgjpolaaDoorVRow
namespace Go.Proofs.YtafbdkcbgjpolaaDoor
set_option linter.unusedSimpArgs false
set_option linter.unusedVariables false
set_option maxRecDepth 100000
open Go.RowKit Go.Shelf

theorem tzz_c (X : Nat) (hX : X < 18446744073709551616) (w : World) (hT : TabW w) : Calls Tryd.prog 38 #[.int .u64 X] w fun e w' => e = .returned (.int .i64 (Lib.ctz 64 X : Nat)) ∧ w' = w := by
  by_cases h0 : X = 0
  · subst h0
    clear hT
    go_enter Tryd.func38, Tryd.ntmps38
    go_wp2_with fail
    go_ret
    exact ⟨rfl, rfl⟩
  · exact tz_c X hX h0 w hT
/-- These blocks lie as they lay. -/
def Kq (ks : List Nat) (W W' : World) : Prop := ∀ k ∈ ks, W'.heap[k]? = W.heap[k]?
theorem Kq.refl (ks : List Nat) (W : World) : Kq ks W W := fun _ _ => rfl
theorem Kq.trans {ks : List Nat} {A B C : World} (h : Kq ks A B) (k : Kq ks B C) : Kq ks A C := fun i hi => (k i hi).trans (h i hi)
theorem Kq.cell {ks : List Nat} {W W' : World} (h : Kq ks W W') {p : Addr} (hp : p.block ∈ ks) {v : Value} (hv : W.cell? p = some v) : W'.cell? p = some v := (World.cell?_of_block (h _ hp)).trans hv
theorem Kq.tab {ks : List Nat} {W W' : World} (h : Kq ks W W') (h0 : 0 ∈ ks) (hT : TabW W) : TabW W' := fun j hj => h.cell (p := ⟨0, j, none⟩) h0 (hT j hj)
theorem each_zero {ff : Nat → Bool} {x s X : Nat} (ht : ∀ t, t < 64 → X.testBit t = ff (64 * x + t)) (hs : s ≤ 64) (h0 : down s X = 0) : onL (64 * (x + 1)) ff = onL (64 * x + s) ff := by
  refine (onL_ext (64 * x + s) (64 * (x + 1)) ff ff (by omega) (fun _ _ => rfl) fun j h1 h2 => ?_).symm
  have h3 := ht (j - 64 * x) (by omega)
  have h4 : (down s X).testBit (j - 64 * x - s) = false := by rw [h0, Nat.zero_testBit]
  rw [testBit_down, show j - 64 * x - s + s = j - 64 * x by omega, h3, show 64 * x + (j - 64 * x) = j by omega] at h4
  exact h4
theorem each_next {ff : Nat → Bool} {x s X : Nat} (hX : X < 2 ^ 64) (ht : ∀ t, t < 64 → X.testBit t = ff (64 * x + t)) (h0 : down s X ≠ 0) :
    Lib.ctz 64 (down s X) + s < 64 ∧ onL (64 * x + (s + (Lib.ctz 64 (down s X) + 1))) ff = onL (64 * x + s) ff ++ [64 * x + s + Lib.ctz 64 (down s X)] := by
  obtain ⟨k1, k2, k3⟩ := ctz_bits (down s X) (down_lt _ _ hX) h0
  generalize Lib.ctz 64 (down s X) = c at *
  rw [testBit_down] at k2
  have hlt : c + s < 64 := by
    by_cases h : c + s < 64
    · exact h
    · rw [testBit_big hX (by omega)] at k2; cases k2
  have h1 := ht (c + s) hlt
  rw [k2] at h1
  refine ⟨hlt, ?_⟩
  have h2 : ff (64 * x + s + c) = true := by rw [h1, show 64 * x + s + c = 64 * x + (c + s) by omega]
  rw [show 64 * x + (s + (c + 1)) = 64 * x + s + c + 1 by omega, onL_yes h2]
  congr 1
  refine (onL_ext (64 * x + s) (64 * x + s + c) ff ff (by omega) (fun _ _ => rfl) fun j h3 h4 => ?_).symm
  have h5 := k3 (j - 64 * x - s) (by omega)
  rw [testBit_down, show j - 64 * x - s + s = j - 64 * x by omega, ht (j - 64 * x) (by omega), show 64 * x + (j - 64 * x) = j by omega] at h5
  exact h5
theorem ctz_zero : Lib.ctz 64 0 = 64 := rfl
theorem onL_pre (ff : Nat → Bool) {a b : Nat} (h : a ≤ b) : onL a ff <+: onL b ff := by
  induction b with
  | zero => obtain rfl : a = 0 := by omega
            exact List.prefix_refl _
  | succ b ih =>
    by_cases e : a = b + 1
    · subst e; exact List.prefix_refl _
    · refine (ih (by omega)).trans ?_
      cases hb : ff b with
      | true => rw [onL_yes hb]; exact List.prefix_append _ _
      | false => rw [onL_no hb]; exact List.prefix_refl _
set_option maxRecDepth 100000 in
set_option maxHeartbeats 4000000 in
theorem each1_in (n : Nat) (hn : 1 ≤ n) (l Bn b g N : Nat) (f : Nat → Bool) (hN : N ≤ 20000) (J Jx : List Nat → World → Prop)
    (hY : ∀ pre x W, J pre W → pre.length < (onL N f).length → YieldAt Fence.wide (n - 1) Tryd.prog l #[.int .u64 (x : Nat)] W fun e W' =>
      (e = .returned (.bool true) ∧ J (pre ++ [x]) W' ∧ Kq [0, b, g, Bn] W W') ∨ (e = .returned (.bool false) ∧ Jx (pre ++ [x]) W'))
    (W : World) (hBn : W.cell? ⟨Bn, 0, none⟩ = some (.pointer (some ⟨b, 0, none⟩))) (hb : BSet W b g N f) (hT : TabW W) (h0 : J [] W) :
    CallsIn Fence.wide n Tryd.prog 39 #[.func (.yield l) #[] #[], .pointer (some ⟨Bn, 0, none⟩)] W fun e W' => (∃ v, e = .returned v) ∧
      ((∃ ys, ys = onL N f ∧ J ys W') ∨ (∃ pre, pre <+: onL N f ∧ Jx pre W')) := by
  obtain ⟨hne, cap, ws, hh, hr, hw⟩ := hb
  have hl := hw.length
  have hle := hr.le
  obtain ⟨m, hm⟩ : ∃ m, ws.length = m := ⟨_, rfl⟩
  have hC : ∀ q, q < m → W.cell? ⟨g, q, none⟩ = some (.int .u64 (ws.getD q 0 : Nat)) := fun q hq => hr.cell q (by omega)
  have hc1 := hh.c1
  rw [hm] at hc1 hl
  have hm4 : m ≤ 400 := by omega
  obtain ⟨ff, hff⟩ : ∃ ff : Nat → Bool, (fun j => decide (j < N) && f j) = ff := ⟨_, rfl⟩
  have hta : ∀ x t, t < 64 → (ws.getD x 0).testBit t = ff (64 * x + t) := fun x t ht => by rw [← hff]; exact hw.testAt x t ht
  have hfin : onL (64 * m) ff = onL N f := by
    rw [← hff]
    refine onL_both _ _ _ _ fun j => ?_
    by_cases h : j < N
    · rw [decide_eq_true h, decide_eq_true (show j < 64 * m by omega)]; rfl
    · rw [decide_eq_false h, Bool.false_and, Bool.and_false]
  obtain ⟨zs, hzs⟩ : ∃ zs, onL N f = zs := ⟨_, rfl⟩
  rw [hzs] at hfin hY ⊢
  have HC := Lib.hid hC; have HTA := Lib.hid hta; have HFIN := Lib.hid hfin; have HT := Lib.hid hT; have HWD := Lib.hid hw.word; have HY := Lib.hid hY
  clear hC hta hff hfin hT hw hr hm hl hh hzs hY
  refine callsIn_of_wp Tryd.func39 rfl trivial ?_ rfl
  simp only [Tryd.ntmps39, List.size_toArray, List.length_cons, List.length_nil, Nat.reduceAdd, Nat.reduceSub, Array.replicate_succ, Array.replicate_zero, List.push_toArray, List.append_toArray, List.nil_append, List.cons_append]
  gi_wp2_with fail
  gi_loopw [12] (fun i wr => ∃ x : Nat, x ≤ m ∧ i = .int .i64 x ∧ J (onL (64 * x) ff) wr ∧ Kq [0, b, g, Bn] W wr) (fun i _ => m - (intOf i).toNat)
  case atStart => exact ⟨0, Nat.zero_le _, rfl, h0, Kq.refl _ _⟩
  case round =>
    obtain ⟨x, hx, rfl, hJ, kr⟩ := hrel
    by_cases hxm : x < m
    · have cX := kr.cell (p := ⟨g, x, none⟩) (by simp) (HC.out x hxm)
      have hX := HWD.out x
      have HTX := Lib.hid (HTA.out x)
      have HTw := Lib.hid (kr.tab (by simp) HT.out)
      generalize ws.getD x 0 = X at *
      have hx0 : (0 : Int) ≤ (x : Int) := by omega
      have hxm' : (x : Int) < (m : Int) := by omega
      gi_wp2_with fail
      refine ⟨trivial, ?_⟩
      refine (callsIn_wide.2 (tzz_c X hX _ HTw.out)).mono ?_
      rintro e w' ⟨rfl, hw'⟩
      subst hw'
      gi_wp2_with fail
      have hd0 : down 0 X = X := by unfold down; simp
      gi_loopw [5, 6] (fun si ti wq => ∃ s : Nat, s ≤ 64 ∧ si = .int .i64 s ∧ ti = .int .i64 (Lib.ctz 64 (down s X) : Nat) ∧ J (onL (64 * x + s) ff) wq ∧ Kq [0, b, g, Bn] W wq) (fun si _ _ => 65 - (intOf si).toNat)
      case atStart => exact ⟨0, by omega, rfl, by rw [hd0], hJ, kr⟩
      case round =>
        obtain ⟨s, hs, rfl, rfl, hJq, kq⟩ := hrel
        have hs0 : (0 : Int) ≤ (s : Int) := by omega
        have HTq := Lib.hid (kq.tab (by simp) HT.out)
        clear hJ kr cX hd0 HTw
        by_cases hd : down s X = 0
        · have hz := each_zero HTX.out hs hd
          rw [hd, ctz_zero]
          rw [← hz] at hJq
          clear hd hz
          gi_wp2_with fail
          go_roundw
          case rel => exact ⟨x + 1, by omega, by go_num, hJq, kq⟩
          case measure => simp [intOf]; omega
        · obtain ⟨c1, c2⟩ := each_next hX HTX.out hd
          obtain ⟨c, hc⟩ : ∃ c, Lib.ctz 64 (down s X) = c := ⟨_, rfl⟩
          rw [hc] at c1 c2 ⊢
          have hpre : onL (64 * x + (s + (c + 1))) ff <+: zs := by rw [← HFIN.out]; exact onL_pre ff (by omega)
          have hlen : (onL (64 * x + s) ff).length < zs.length := by
            have := hpre.length_le
            rw [c2, List.length_append] at this; simp at this; omega
          obtain ⟨fn, tmps, assign, body, hy, hR⟩ := HY.out _ (64 * x + s + c) wr hJq hlen
          rw [show ((64 * x + s + c : Nat) : Int) = (x : Int) * 64 + (s : Int) + (c : Int) by omega] at hy
          have hne64 : ¬ (c : Int) = 64 := by omega
          have HC2 := Lib.hid c2; have HPRE := Lib.hid hpre
          clear c2 hpre hlen hd hc
          gi_wp2_with fail
          refine hR.mono ?_
          rintro e W3 (⟨rfl, hJ3, hk3⟩ | ⟨rfl, hJx3⟩)
          · have kq3 := kq.trans hk3
            have HT3 := Lib.hid (kq3.tab (by simp) HT.out)
            have hdn := int_down (s + (c + 1)) X
            have hDl := down_lt (s + (c + 1)) X hX
            have hs64 : s + (c + 1) ≤ 64 := by omega
            clear hy hR hk3 kq hJq
            have HDN := Lib.hid hdn; clear hdn
            gi_wp2_with fail
            refine ⟨trivial, ?_⟩
            rw [HDN.out]
            refine (callsIn_wide.2 (tzz_c (down (s + (c + 1)) X) hDl _ HT3.out)).mono ?_
            rintro e w' ⟨rfl, hw'⟩
            subst hw'
            gi_wp2_with fail
            go_roundw
            case rel => exact ⟨s + (c + 1), hs64, by go_num, rfl, by rw [HC2.out]; exact hJ3, kq3⟩
            case measure => simp [intOf]; omega
          · gi_wp2_with fail
            refine bodyPost_ret (results_none rfl _ _ _) rfl ?_
            exact ⟨⟨_, rfl⟩, .inr ⟨_, HC2.out ▸ HPRE.out, hJx3⟩⟩
    · obtain rfl : x = m := by omega
      have hxm2 : ¬ (x : Int) < (x : Int) := by omega
      rw [HFIN.out] at hJ
      gi_wp2_with fail
      go_end0
      exact ⟨⟨_, rfl⟩, .inl hJ⟩

end Go.Proofs.YtafbdkcbgjpolaaDoor

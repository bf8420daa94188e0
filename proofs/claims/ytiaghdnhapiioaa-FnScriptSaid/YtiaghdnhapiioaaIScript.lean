/-
  impl.Script: what the package's set is behind steps that the reference tells.
-/
import Derived.BigRegion
import Derived.Deep.Cut
import Derived.Test.YtiaghdnhapiioaaScrL
import Derived.Test.YtiaghdnhapiioaaSteps
import Derived.Test.YtiaghdnhapiioaaSet
import Derived.Test.YtiaghdnhapiioaaSetTo
import Derived.Test.YtiaghdnhapiioaaRngX
import Derived.Test.YtiaghdnhapiioaaRngY
import Derived.Test.YtiaghdnhapiioaaShL
import Derived.Test.YtiaghdnhapiioaaShRa
import Derived.Test.YtiaghdnhapiioaaIns
import Derived.Test.YtiaghdnhapiioaaDel
import Derived.Test.YtiaghdnhapiioaaLast
import Derived.Test.YtiaghdnhapiioaaOpsB
import Derived.Test.YtiaghdnhapiioaaRow
namespace Go.Proofs.Ytiaghdnhapiioaa
set_option linter.unusedSimpArgs false
set_option linter.unusedVariables false
open Go.RowKit

set_option maxHeartbeats 8000000 in
set_option maxRecDepth 100000 in
theorem implScript_c (L0 : Nat) (v vs : Value) (on : List Nat) (l : List (Int × Int × Int)) (rf : Ref) (w : World) (hv : IntsAt w v on) (hs : StepsZ w vs l) (hL0 : L0 ≤ 2000) (hlen : on.length ≤ 400) (hon : ∀ x ∈ on, x < 2500) (hl : l.length ≤ 30)
    (hrun : runS ⟨lenOf L0 on, memOf on, true⟩ l = some rf) :
    Calls Try.prog 28 #[.agg #[.int .i64 L0, v], vs] w fun e w' => ∃ (M : Nat) (v' : Value), e = .returned (.agg #[.int .i64 M, v']) ∧ (rf.t = true → M = rf.n) ∧ IntsAt w' v' (onL rf.n rf.f) ∧ rf.n ≤ 8600 ∧ Kept [] w w' := by
  have k0 : Kept [] w ((w.alloc (.cells #[.int .i64 L0, v] 24)).alloc (.cells #[.int .i64 0, .slice none 0 0] 24)) := ((Kept.refl _ _).alloc _).alloc _
  have g0 : ((w.alloc (.cells #[.int .i64 L0, v] 24)).alloc (.cells #[.int .i64 0, .slice none 0 0] 24)).heap[w.heap.size + 1]? = some (.cells #[.int .i64 0, .slice none 0 0] 24 (0, 0)) := by
    have := heap_alloc_new (w.alloc (.cells #[.int .i64 L0, v] 24)) (.cells #[.int .i64 0, .slice none 0 0] 24)
    simpa using this
  have hln := lenOf_le L0 on 2500 (by omega) hon
  obtain ⟨sad, scap, rfl⟩ := hs.shape
  have hst : ∀ j, j < l.length → ∃ sb off, sad = some ⟨sb, off, none⟩ ∧ sb < w.heap.size ∧ w.cell? ⟨sb, off + j * 3, none⟩ = some (.int .i64 (l.getD j (0, 0, 0)).1) ∧ w.cell? ⟨sb, off + j * 3 + 1, none⟩ = some (.int .i64 (l.getD j (0, 0, 0)).2.1) ∧ w.cell? ⟨sb, off + j * 3 + 2, none⟩ = some (.int .i64 (l.getD j (0, 0, 0)).2.2) := fun j hj => by
    rcases hs with ⟨ad, cap, e, rfl⟩ | ⟨sb, off, cap, e, h1, h2⟩
    · simp at hj
    · cases e
      exact ⟨sb, off, rfl, h1, h2 j hj⟩
  obtain ⟨len, hlenE⟩ : ∃ len, l.length = len := ⟨_, rfl⟩
  rw [hlenE]
  have hlen30 : len ≤ 30 := by omega
  have HLE := Lib.hid hlenE; have HST := Lib.hid hst; have HRUN := Lib.hid hrun
  clear hs hst hrun hlenE
  go_enter Try.func28, Try.ntmps28
  go_wp2_with fail
  refine (build_c L0 v on _ (hv.kept k0) (by omega) (fun x hx => by have := hon x hx; omega) (by omega)).mono ?_
  rintro e w1 ⟨b, g1, rfl, hb, n1, n2, k1⟩
  have s0 : w.heap.size + 2 ≤ b ∧ w.heap.size + 2 ≤ g1 := by simp at n1 n2; omega
  have kw1 := k0.trans0 k1
  have gR1 := k1.heap (by simp) g0
  have hR0 : Rel ⟨lenOf L0 on, memOf on, true⟩ (lenOf L0 on) (memOf on) := ⟨Nat.le_refl _, fun _ => rfl, fun _ => rfl⟩
  go_wp2_with fail
  go_loopw [14] (fun v wr => ∃ (y : Nat) (ri : Ref) (g L : Nat) (F : Nat → Bool), y ≤ len ∧ v = .int .i64 y ∧ Hid (runS ⟨lenOf L0 on, memOf on, true⟩ (l.take y) = some ri) ∧ Rel ri L F ∧ BSet wr b g L F ∧ L ≤ 8501 + y ∧ w.heap.size + 2 ≤ g ∧ Kept [] w wr ∧ wr.heap[w.heap.size + 1]? = some (.cells #[.int .i64 0, .slice none 0 0] 24 (0, 0))) (fun v _ => len - (intOf v).toNat)
  case atStart => exact ⟨0, _, g1, lenOf L0 on, memOf on, Nat.zero_le _, rfl, by show _ = _; rw [List.take_zero]; rfl, hR0, hb, by omega, s0.2, kw1, gR1⟩
  case round =>
    obtain ⟨y, ri, g, L, F, hy, rfl, hpre, hR, hB, hLb, hg, q1, gR⟩ := hrel
    by_cases hyl : y < len
    · obtain ⟨r2, hnx⟩ := runS_take _ _ _ HRUN.out (y + 1) (by rw [HLE.out]; omega)
      have hnext : Hid (runS ⟨lenOf L0 on, memOf on, true⟩ (l.take (y + 1)) = some r2) := hnx
      rw [take_snoc l (0, 0, 0) y (by rw [HLE.out]; exact hyl), runS_snoc, hpre.out] at hnx
      obtain ⟨sb, off, rfl, hsb, s1, s2, s3⟩ := HST.out y (by rw [HLE.out]; exact hyl)
      obtain ⟨o, i, k, e1, e2, e3, ho, hi, hk, hn6, hdo⟩ := doS_some hnx
      rw [e1] at s1; rw [e2] at s2; rw [e3] at s3
      obtain ⟨n, f, t⟩ := ri
      have hn6 : n ≤ 6000 := hn6
      have hdo : doN o i k n f t = some r2 := hdo
      have t1 := q1.cell (by simp) s1; have t2 := q1.cell (by simp) s2; have t3 := q1.cell (by simp) s3
      have hwr : sb < wr.heap.size := Nat.lt_of_lt_of_le hsb q1.size
      have hyl' : (y : Int) < (len : Int) := by omega
      have hy0 : (0 : Int) ≤ (y : Int) := by omega
      have hnL : n ≤ L := hR.le
      have hws := q1.size
      have hblt := hB.lt
      have hszz : ∀ o m, ((wr.alloc o).drewN m).heap.size = wr.heap.size + 1 := fun o m => by show (wr.alloc o).heap.size = _; simp
      have HSZ := Lib.hid hszz; clear hszz
      clear hnx e1 e2 e3 s1 s2 s3 hpre hR0 hb kw1 gR1 k1 n1 n2 k0 g0
      have hoo : o = 0 ∨ o = 1 ∨ o = 2 ∨ o = 3 ∨ o = 4 ∨ o = 5 ∨ o = 6 ∨ o = 7 ∨ o = 8 ∨ o = 9 ∨ o = 10 ∨ o = 11 ∨ o = 12 ∨ o = 13 := by omega
      clear ho
      rcases hoo with rfl | rfl | rfl | rfl | rfl | rfl | rfl | rfl | rfl | rfl | rfl | rfl | rfl | rfl
      · have hdo : some (⟨max n (i + 1), fun j => (j == i) || (decide (j < n) && f j), t⟩ : Ref) = some r2 := hdo
        have hr := Option.some.inj hdo
        subst hr
        go_wp2_with fail
        go_quiet (fail)
        go_wp2_with fail
        refine (set_c b g L i F _ ((hB.alloc _).drewN _) (by omega) (by omega)).mono ?_
        rintro e w2 ⟨rfl, g2, hB2, hg2, k2⟩
        have hks := k2.size
        rw [HSZ.out] at hks
        (try rw [HSZ.out] at hg2)
        go_wp2_with fail
        go_roundw
        case rel => exact ⟨y + 1, _, g2, _, _, by omega, by go_num, hnext, rel0 hR i, hB2, by omega, by omega, ((q1.alloc _).drewN _).trans k2 (fun j hj => by simp at hj; right; omega), k2.heap (by simp; omega) (alloc_heap_old gR _)⟩
        case measure => simp [intOf] <;> omega
      · have hdo : some (⟨n, fun j => !(j == i) && f j, t⟩ : Ref) = some r2 := hdo
        have hr := Option.some.inj hdo
        subst hr
        go_wp2_with fail
        go_quiet (fail)
        go_wp2_with fail
        refine (clear_c b g L i F _ ((hB.alloc _).drewN _) (by omega) (by omega)).mono ?_
        rintro e w2 ⟨rfl, hB2, k2⟩
        have hks := k2.size
        rw [HSZ.out] at hks
        (try rw [HSZ.out] at hg2)
        go_wp2_with fail
        go_roundw
        case rel => exact ⟨y + 1, _, g, _, _, by omega, by go_num, hnext, rel1 hR i, hB2, by omega, by omega, ((q1.alloc _).drewN _).trans k2 (fun j hj => by simp at hj; right; omega), k2.heap (by simp; omega) (alloc_heap_old gR _)⟩
        case measure => simp [intOf] <;> omega
      · have hdo : some (⟨max n (i + 1), fun j => (j == i) ^^ (decide (j < n) && f j), t⟩ : Ref) = some r2 := hdo
        have hr := Option.some.inj hdo
        subst hr
        go_wp2_with fail
        go_quiet (fail)
        go_wp2_with fail
        refine (flip_c b g L i F _ ((hB.alloc _).drewN _) (by omega) (by omega)).mono ?_
        rintro e w2 ⟨rfl, g2, hB2, hg2, k2⟩
        have hks := k2.size
        rw [HSZ.out] at hks
        (try rw [HSZ.out] at hg2)
        go_wp2_with fail
        go_roundw
        case rel => exact ⟨y + 1, _, g2, _, _, by omega, by go_num, hnext, rel2 hR i, hB2, by omega, by omega, ((q1.alloc _).drewN _).trans k2 (fun j hj => by simp at hj; right; omega), k2.heap (by simp; omega) (alloc_heap_old gR _)⟩
        case measure => simp [intOf] <;> omega
      · by_cases hk0 : k = 0
        · subst hk0
          by_cases hin : i < n
          · have hdo : doN 3 i 0 n f t = some r2 := hdo
            rw [show doN 3 i 0 n f t = some ⟨n, fun j => !(j == i) && f j, t⟩ from (show doN 3 i 0 n f t = (if (0 : Nat) = 0 then (if i < n then some ⟨n, fun j => !(j == i) && f j, t⟩ else some ⟨lst (fun j => if j = i then false else (decide (j < n) && f j)) (max n (i + 1)), fun j => if j = i then false else (decide (j < n) && f j), false⟩) else some ⟨max n (i + 1), fun j => (j == i) || (decide (j < n) && f j), t⟩) from rfl).trans ((if_pos rfl).trans (if_pos hin))] at hdo
            have hr := Option.some.inj hdo
            subst hr
            go_wp2_with fail
            go_quiet (fail)
            go_wp2_with fail
            refine (setToF_c b g L i F _ ((hB.alloc _).drewN _) (by omega) (by omega)).mono ?_
            rintro e w2 ⟨rfl, hB2, k2⟩
            have hks := k2.size
            rw [HSZ.out] at hks
            (try rw [HSZ.out] at hg2)
            go_wp2_with fail
            go_roundw
            case rel => exact ⟨y + 1, _, g, _, _, by omega, by go_num, hnext, rel1 hR i, hB2, by omega, by omega, ((q1.alloc _).drewN _).trans k2 (fun j hj => by simp at hj; right; omega), k2.heap (by simp; omega) (alloc_heap_old gR _)⟩
            case measure => simp [intOf] <;> omega
          · have hdo : doN 3 i 0 n f t = some r2 := hdo
            rw [show doN 3 i 0 n f t = some ⟨lst (fun j => if j = i then false else (decide (j < n) && f j)) (max n (i + 1)), fun j => if j = i then false else (decide (j < n) && f j), false⟩ from (show doN 3 i 0 n f t = (if (0 : Nat) = 0 then (if i < n then some ⟨n, fun j => !(j == i) && f j, t⟩ else some ⟨lst (fun j => if j = i then false else (decide (j < n) && f j)) (max n (i + 1)), fun j => if j = i then false else (decide (j < n) && f j), false⟩) else some ⟨max n (i + 1), fun j => (j == i) || (decide (j < n) && f j), t⟩) from rfl).trans ((if_pos rfl).trans (if_neg hin))] at hdo
            have hr := Option.some.inj hdo
            subst hr
            go_wp2_with fail
            go_quiet (fail)
            go_wp2_with fail
            refine (setToF_c b g L i F _ ((hB.alloc _).drewN _) (by omega) (by omega)).mono ?_
            rintro e w2 ⟨rfl, hB2, k2⟩
            have hks := k2.size
            rw [HSZ.out] at hks
            (try rw [HSZ.out] at hg2)
            go_wp2_with fail
            go_roundw
            case rel => exact ⟨y + 1, _, g, _, _, by omega, by go_num, hnext, rel3u hR i (by omega), hB2, by omega, by omega, ((q1.alloc _).drewN _).trans k2 (fun j hj => by simp at hj; right; omega), k2.heap (by simp; omega) (alloc_heap_old gR _)⟩
            case measure => simp [intOf] <;> omega
        · have hkb : ((k : Int) != 0) = true := by simp; omega
          have hkb' : ¬ (k : Int) = 0 := by omega
          have hdo : doN 3 i k n f t = some r2 := hdo
          rw [show doN 3 i k n f t = some ⟨max n (i + 1), fun j => (j == i) || (decide (j < n) && f j), t⟩ from if_neg hk0] at hdo
          have hr := Option.some.inj hdo
          subst hr
          go_wp2_with fail
          go_quiet (fail)
          go_wp2_with fail
          refine (setToT_c b g L i F _ ((hB.alloc _).drewN _) (by omega) (by omega)).mono ?_
          rintro e w2 ⟨rfl, g2, hB2, hg2, k2⟩
          have hks := k2.size
          rw [HSZ.out] at hks
          (try rw [HSZ.out] at hg2)
          go_wp2_with fail
          go_roundw
          case rel => exact ⟨y + 1, _, g2, _, _, by omega, by go_num, hnext, rel0 hR i, hB2, by omega, by omega, ((q1.alloc _).drewN _).trans k2 (fun j hj => by simp at hj; right; omega), k2.heap (by simp; omega) (alloc_heap_old gR _)⟩
          case measure => simp [intOf] <;> omega
      · by_cases hik : k ≤ i
        · rw [show doN 4 i k n f t = none from if_pos hik] at hdo
          cases hdo
        · by_cases hkn : k ≤ n
          · rw [show doN 4 i k n f t = some ⟨n, rngF true n f i k, t⟩ from (if_neg hik).trans (if_pos hkn)] at hdo
            have hr := Option.some.inj hdo
            subst hr
            go_wp2_with fail
            go_quiet (fail)
            go_wp2_with fail
            refine (setRange_c b g L i k F _ ((hB.alloc _).drewN _) (by omega) hi hk).mono ?_
            rintro e w2 ⟨rfl, g2, hB2, hg2, k2⟩
            have hnl := rngN_le L i k
            have hgl : L ≤ rngN L i k ∨ True := .inr trivial
            have hks := k2.size
            rw [HSZ.out] at hks
            (try rw [HSZ.out] at hg2)
            go_wp2_with fail
            go_roundw
            case rel => exact ⟨y + 1, _, g2, _, _, by omega, by go_num, hnext, rel4 hR i k (by omega) hkn, hB2, by omega, by omega, ((q1.alloc _).drewN _).trans k2 (fun j hj => by simp at hj; right; omega), k2.heap (by simp; omega) (alloc_heap_old gR _)⟩
            case measure => simp [intOf] <;> omega
          · rw [show doN 4 i k n f t = some ⟨lst (rngF true n f i k) k, rngF true n f i k, false⟩ from (if_neg hik).trans (if_neg hkn)] at hdo
            have hr := Option.some.inj hdo
            subst hr
            go_wp2_with fail
            go_quiet (fail)
            go_wp2_with fail
            refine (setRange_c b g L i k F _ ((hB.alloc _).drewN _) (by omega) hi hk).mono ?_
            rintro e w2 ⟨rfl, g2, hB2, hg2, k2⟩
            have hnl := rngN_le L i k
            have hgl : L ≤ rngN L i k ∨ True := .inr trivial
            have hks := k2.size
            rw [HSZ.out] at hks
            (try rw [HSZ.out] at hg2)
            go_wp2_with fail
            go_roundw
            case rel => exact ⟨y + 1, _, g2, _, _, by omega, by go_num, hnext, rel4x hR i k (by omega) (by omega), hB2, by omega, by omega, ((q1.alloc _).drewN _).trans k2 (fun j hj => by simp at hj; right; omega), k2.heap (by simp; omega) (alloc_heap_old gR _)⟩
            case measure => simp [intOf] <;> omega
      · by_cases hik : k ≤ i
        · rw [show doN 5 i k n f t = none from if_pos hik] at hdo
          cases hdo
        · by_cases hkn : k ≤ n
          · rw [show doN 5 i k n f t = some ⟨n, rngF false n f i k, t⟩ from (if_neg hik).trans (if_pos hkn)] at hdo
            have hr := Option.some.inj hdo
            subst hr
            go_wp2_with fail
            go_quiet (fail)
            go_wp2_with fail
            refine (flipRange_c b g L i k F _ ((hB.alloc _).drewN _) (by omega) hi hk).mono ?_
            rintro e w2 ⟨rfl, g2, hB2, hg2, k2⟩
            have hnl := rngN_le L i k
            have hgl : L ≤ rngN L i k ∨ True := .inr trivial
            have hks := k2.size
            rw [HSZ.out] at hks
            (try rw [HSZ.out] at hg2)
            go_wp2_with fail
            go_roundw
            case rel => exact ⟨y + 1, _, g2, _, _, by omega, by go_num, hnext, rel5 hR i k (by omega) hkn, hB2, by omega, by omega, ((q1.alloc _).drewN _).trans k2 (fun j hj => by simp at hj; right; omega), k2.heap (by simp; omega) (alloc_heap_old gR _)⟩
            case measure => simp [intOf] <;> omega
          · rw [show doN 5 i k n f t = some ⟨lst (rngF false n f i k) k, rngF false n f i k, false⟩ from (if_neg hik).trans (if_neg hkn)] at hdo
            have hr := Option.some.inj hdo
            subst hr
            go_wp2_with fail
            go_quiet (fail)
            go_wp2_with fail
            refine (flipRange_c b g L i k F _ ((hB.alloc _).drewN _) (by omega) hi hk).mono ?_
            rintro e w2 ⟨rfl, g2, hB2, hg2, k2⟩
            have hnl := rngN_le L i k
            have hgl : L ≤ rngN L i k ∨ True := .inr trivial
            have hks := k2.size
            rw [HSZ.out] at hks
            (try rw [HSZ.out] at hg2)
            go_wp2_with fail
            go_roundw
            case rel => exact ⟨y + 1, _, g2, _, _, by omega, by go_num, hnext, rel5x hR i k (by omega) (by omega), hB2, by omega, by omega, ((q1.alloc _).drewN _).trans k2 (fun j hj => by simp at hj; right; omega), k2.heap (by simp; omega) (alloc_heap_old gR _)⟩
            case measure => simp [intOf] <;> omega
      · by_cases hcc : 0 < lst f n ∧ (lst f n - 1 + i) % 64 = 0
        · rw [show doN 6 i k n f t = none from if_pos hcc] at hdo
          cases hdo
        · rw [show doN 6 i k n f t = some ⟨lst (fun j => fAt n f ((j : Int) - (i : Int))) (n + i), fun j => fAt n f ((j : Int) - (i : Int)), false⟩ from if_neg hcc] at hdo
          have hr := Option.some.inj hdo
          subst hr
          have hll := hR.lst_le
          go_wp2_with fail
          go_quiet (fail)
          go_wp2_with fail
          refine (shiftLeft_c b g L i F _ ((hB.alloc _).drewN _) (by omega) hi).mono ?_
          rintro e w2 ⟨rfl, g2, L2, hB2, q4, q5, q6, hg2, k2⟩
          have hks := k2.size
          rw [HSZ.out] at hks
          (try rw [HSZ.out] at hg2)
          go_wp2_with fail
          go_roundw
          case rel => exact ⟨y + 1, _, g2, L2, _, by omega, by go_num, hnext, rel6 hR i L2 q6, hB2, by omega, by omega, ((q1.alloc _).drewN _).trans k2 (fun j hj => by simp at hj; right; omega), k2.heap (by simp; omega) (alloc_heap_old gR _)⟩
          case measure => simp [intOf] <;> omega
      · by_cases hcc : 0 < lst f n ∧ lst f n ≤ i + 1
        · rw [show doN 7 i k n f t = none from if_pos hcc] at hdo
          cases hdo
        · rw [show doN 7 i k n f t = some ⟨lst (fun j => fAt n f ((j : Int) + (i : Int))) (n), fun j => fAt n f ((j : Int) + (i : Int)), false⟩ from if_neg hcc] at hdo
          have hr := Option.some.inj hdo
          subst hr
          go_wp2_with fail
          go_quiet (fail)
          go_wp2_with fail
          refine (shiftRight_c b g L i F _ ((hB.alloc _).drewN _) (by omega) hi).mono ?_
          rintro e w2 ⟨rfl, hB2, k2⟩
          have hks := k2.size
          rw [HSZ.out] at hks
          (try rw [HSZ.out] at hg2)
          go_wp2_with fail
          go_roundw
          case rel => exact ⟨y + 1, _, g, _, _, by omega, by go_num, hnext, rel7 hR i, hB2, by omega, by omega, ((q1.alloc _).drewN _).trans k2 (fun j hj => by simp at hj; right; omega), k2.heap (by simp; omega) (alloc_heap_old gR _)⟩
          case measure => simp [intOf] <;> omega
      · by_cases hcc : n ≤ i
        · rw [show doN 8 i k n f t = none from if_pos hcc] at hdo
          cases hdo
        · rw [show doN 8 i k n f t = some ⟨lst (fun j => (decide (j < i) && fAt n f j) || (decide (i < j) && fAt n f ((j : Int) - 1))) (n + 1), fun j => (decide (j < i) && fAt n f j) || (decide (i < j) && fAt n f ((j : Int) - 1)), false⟩ from if_neg hcc] at hdo
          have hr := Option.some.inj hdo
          subst hr
          go_wp2_with fail
          go_quiet (fail)
          go_wp2_with fail
          refine (insertAt_c b g L i F _ ((hB.alloc _).drewN _) (by omega) (by have : n ≤ L := hR.le; omega)).mono ?_
          rintro e w2 ⟨rfl, g2, hB2, hg2, k2⟩
          have hks := k2.size
          rw [HSZ.out] at hks
          (try rw [HSZ.out] at hg2)
          go_wp2_with fail
          go_roundw
          case rel => exact ⟨y + 1, _, g2, _, _, by omega, by go_num, hnext, rel8 hR i (by omega), hB2, by omega, by omega, ((q1.alloc _).drewN _).trans k2 (fun j hj => by simp at hj; right; omega), k2.heap (by simp; omega) (alloc_heap_old gR _)⟩
          case measure => simp [intOf] <;> omega
      · by_cases hcc : n ≤ i
        · rw [show doN 9 i k n f t = none from if_pos hcc] at hdo
          cases hdo
        · rw [show doN 9 i k n f t = some ⟨lst (fun j => (decide (j < i) && fAt n f j) || (decide (i ≤ j) && fAt n f ((j : Int) + 1))) (n), fun j => (decide (j < i) && fAt n f j) || (decide (i ≤ j) && fAt n f ((j : Int) + 1)), false⟩ from if_neg hcc] at hdo
          have hr := Option.some.inj hdo
          subst hr
          go_wp2_with fail
          go_quiet (fail)
          go_wp2_with fail
          refine (deleteAt_c b g L i F _ ((hB.alloc _).drewN _) (by omega) (by have : n ≤ L := hR.le; omega)).mono ?_
          rintro e w2 ⟨rfl, hB2, k2⟩
          have hks := k2.size
          rw [HSZ.out] at hks
          (try rw [HSZ.out] at hg2)
          go_wp2_with fail
          go_roundw
          case rel => exact ⟨y + 1, _, g, _, _, by omega, by go_num, hnext, rel9 hR i (by omega), hB2, by omega, by omega, ((q1.alloc _).drewN _).trans k2 (fun j hj => by simp at hj; right; omega), k2.heap (by simp; omega) (alloc_heap_old gR _)⟩
          case measure => simp [intOf] <;> omega
      · have hdo : some (⟨n, fun _ => false, t⟩ : Ref) = some r2 := hdo
        have hr := Option.some.inj hdo
        subst hr
        go_wp2_with fail
        go_quiet (fail)
        go_wp2_with fail
        refine (clearAll_c b g L F _ ((hB.alloc _).drewN _) (by omega)).mono ?_
        rintro e w2 ⟨rfl, hB2, k2⟩
        have hks := k2.size
        rw [HSZ.out] at hks
        (try rw [HSZ.out] at hg2)
        go_wp2_with fail
        go_roundw
        case rel => exact ⟨y + 1, _, g, _, _, by omega, by go_num, hnext, rel10 hR, hB2, by omega, by omega, ((q1.alloc _).drewN _).trans k2 (fun j hj => by simp at hj; right; omega), k2.heap (by simp; omega) (alloc_heap_old gR _)⟩
        case measure => simp [intOf] <;> omega
      · by_cases hcc : t = true
        · rw [show doN 11 i k n f t = some ⟨n, fun _ => true, true⟩ from if_pos hcc] at hdo
          have hr := Option.some.inj hdo
          subst hr
          go_wp2_with fail
          go_quiet (fail)
          go_wp2_with fail
          refine (setAll_c b g L F _ ((hB.alloc _).drewN _) (by omega)).mono ?_
          rintro e w2 ⟨rfl, hB2, k2⟩
          have hks := k2.size
          rw [HSZ.out] at hks
          (try rw [HSZ.out] at hg2)
          go_wp2_with fail
          go_roundw
          case rel => exact ⟨y + 1, _, g, _, _, by omega, by go_num, hnext, rel11 hR hcc, hB2, by omega, by omega, ((q1.alloc _).drewN _).trans k2 (fun j hj => by simp at hj; right; omega), k2.heap (by simp; omega) (alloc_heap_old gR _)⟩
          case measure => simp [intOf] <;> omega
        · rw [show doN 11 i k n f t = none from if_neg hcc] at hdo
          cases hdo
      · have hdo : some (⟨lst (fun i => decide (i < n) && f i) (n), fun i => decide (i < n) && f i, false⟩ : Ref) = some r2 := hdo
        have hr := Option.some.inj hdo
        subst hr
        go_wp2_with fail
        go_quiet (fail)
        go_wp2_with fail
        refine (compact_c b g L F _ ((hB.alloc _).drewN _) (by omega)).mono ?_
        rintro e w2 ⟨rfl, L2, g2, hB2, q4, q5, hg2, k2⟩
        have hks := k2.size
        rw [HSZ.out] at hks
        (try rw [HSZ.out] at hg2)
        go_wp2_with fail
        go_roundw
        case rel => exact ⟨y + 1, _, g2, L2, _, by omega, by go_num, hnext, rel12 hR L2 q4 q5, hB2, by omega, by omega, ((q1.alloc _).drewN _).trans k2 (fun j hj => by simp at hj; right; omega), k2.heap (by simp; omega) (alloc_heap_old gR _)⟩
        case measure => simp [intOf] <;> omega
      · by_cases hcc : n ≤ i
        · rw [show doN 13 i k n f t = none from if_pos hcc] at hdo
          cases hdo
        · rw [show doN 13 i k n f t = some ⟨i + 1, f, true⟩ from if_neg hcc] at hdo
          have hr := Option.some.inj hdo
          subst hr
          go_wp2_with fail
          go_quiet (fail)
          go_wp2_with fail
          refine (shrink_c b g L i F _ ((hB.alloc _).drewN _) (by omega) (by have : n ≤ L := hR.le; omega)).mono ?_
          rintro e w2 ⟨rfl, g2, hB2, hg2', k2'⟩
          have k2 := k2'.mono (S' := [b, g]) (fun i hi => by simp at hi; left; simp [hi])
          have hg2 : g2 = g ∨ _ ≤ g2 := .inr hg2'
          have hks := k2.size
          rw [HSZ.out] at hks
          (try rw [HSZ.out] at hg2)
          go_wp2_with fail
          go_roundw
          case rel => exact ⟨y + 1, _, g2, _, _, by omega, by go_num, hnext, rel13 hR i (by omega), hB2, by omega, by omega, ((q1.alloc _).drewN _).trans k2 (fun j hj => by simp at hj; right; omega), k2.heap (by simp; omega) (alloc_heap_old gR _)⟩
          case measure => simp [intOf] <;> omega
    · obtain rfl : y = len := by omega
      have hfin := hpre.out
      rw [List.take_of_length_le (by rw [HLE.out]; exact Nat.le_refl _), HRUN.out] at hfin
      have hrr := Option.some.inj hfin
      subst hrr
      have hLL : L ≤ 20000 := by omega
      have hlist : onL L F = onL rf.n rf.f := onL_both _ _ _ _ hR.bits
      have hrn : rf.n ≤ L := hR.le
      have HLS := Lib.hid hlist; have HTO := Lib.hid hR.told
      clear hlist hfin hpre hR0 hb kw1 gR1 k1 n1 n2 k0 g0
      go_wp2_with fail
      refine (told_c b g L F wr hB hLL).mono ?_
      rintro e w3 ⟨v3, rfl, hown, k3⟩
      have gR3 := k3.heap (by simp) gR
      have kA := q1.trans0 k3
      obtain ⟨ad, ln, cp, rfl⟩ := slice_of_owns hown
      obtain ⟨c0, c1, z0, z1, e0, e1⟩ := box2 gR3 (.int .i64 L) (.slice ad ln cp)
      have hsz : w.heap.size + 2 ≤ wr.heap.size := by have := hB.lt; omega
      clear gR gR3 hB
      go_wp2_with fail
      refine bodyPost_ret (v := .agg #[.int .i64 L, .slice ad ln cp]) (by simp [results, Try.results28, go_sem, e0, e1]) rfl ⟨L, _, rfl, fun ht => (HTO.out ht).symm, ?_, by omega, (kA.setCell (by right; simp) _).setCell (by right; simp) _⟩
      have h3 := IntsAt.of_owns (ownsRow_setCell_below (a := ⟨w.heap.size + 1, 1, none⟩) (ownsRow_setCell_below (a := ⟨w.heap.size + 1, 0, none⟩) hown (by show w.heap.size + 1 < wr.heap.size + 2; omega) (.int .i64 L)) (by show w.heap.size + 1 < wr.heap.size + 2; omega) (.slice ad ln cp))
      rw [HLS.out] at h3
      exact h3

end Go.Proofs.Ytiaghdnhapiioaa

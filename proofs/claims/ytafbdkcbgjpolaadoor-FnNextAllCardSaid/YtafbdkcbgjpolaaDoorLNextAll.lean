/-
  laws.FnNextAll: for every input; the table of TrailingZeros64 is laid, tied to the program's text.
-/
import Derived.SevenTiedAt
import Derived.Test.YtafbdkcbgjpolaaDoorINextSet
import Derived.Test.YtafbdkcbgjpolaaDoorLaid
import Derived.Test.YtafbdkcbgjpolaaDoorOwn
namespace Go.Proofs.YtafbdkcbgjpolaaDoor
set_option linter.unusedSimpArgs false
set_option linter.unusedVariables false
set_option maxRecDepth 100000
open Go.RowKit

set_option maxHeartbeats 1000000 in
set_option linter.unusedVariables false in
theorem fnNextAll_bad (L : Int) (v : Value) (zs : List Int) (w : World) (hv : IntsZ w v zs) (hlen : zs.length ≤ 9223372036854775807) (hL : -9223372036854775808 ≤ L) (hL2 : L ≤ 9223372036854775807) (hb : ¬ (Good L zs)) :
    Calls Tryd.prog 5 #[.agg #[.int .i64 L, v]] w fun e w' => e = .returned (.bool true) ∧ Kept [] w w' := by
  have k0 : Kept [] w (w.alloc (.cells #[.int .i64 L, v] 24)) := (Kept.refl _ _).alloc _
  have g0 : (w.alloc (.cells #[.int .i64 L, v] 24)).heap[w.heap.size]? = some (.cells #[.int .i64 L, v] 24 (0, 0)) := heap_alloc_new w _
  obtain ⟨ad, m, cap, rfl⟩ : ∃ ad m cap, v = .slice ad m cap := by
    rcases hv with ⟨ad, cap, h3, h4⟩ | ⟨b, off, cap, h3, _, _⟩ <;> exact ⟨_, _, _, h3⟩
  by_cases hm : m ≤ 2147483647
  · have hd : decide (m ≤ 2147483647) = true := by simpa using hm
    by_cases hg : Good L zs
    · exact absurd hg hb
    · clear hb
      go_enter Tryd.func5, Tryd.ntmps5
      go_wp2_with fail
      refine (zz_c L ad m cap _).mono ?_
      rintro e w1 ⟨rfl, k1⟩
      have c0 : w1.cell? ⟨w.heap.size, 0, none⟩ = some (.int .i64 L) := (cell_of_heap (k1.heap (by simp) g0)).trans rfl
      have c1 : w1.cell? ⟨w.heap.size, 1, none⟩ = some (.slice ad m cap) := (cell_of_heap (k1.heap (by simp) g0)).trans rfl
      rw [hd]
      go_wp2_with fail
      refine (setBad_c L _ zs _ (hv.kept (k0.trans0 k1)) hg hlen hL hL2).mono ?_
      rintro e w2 ⟨rfl, k2⟩
      go_wp2_with fail
      go_ret
      exact ⟨rfl, (((k0.trans0 k1).trans0 k2).alloc _)⟩
  · have hd : decide (m ≤ 2147483647) = false := by simpa using hm
    clear hb
    go_enter Tryd.func5, Tryd.ntmps5
    go_wp2_with fail
    refine (zz_c L ad m cap _).mono ?_
    rintro e w1 ⟨rfl, k1⟩
    rw [hd]
    go_wp2_with fail
    go_ret
    exact ⟨rfl, k0.trans0 k1⟩

set_option maxHeartbeats 2000000 in
set_option linter.unusedVariables false in
theorem fnNextAll_good (L : Nat) (v : Value) (on : List Nat) (w : World) (hv : IntsAt w v on) (hL : L ≤ 2000) (hlen : on.length ≤ 400) (hon : ∀ x ∈ on, x < 2500) (hT : TabW w) :
    Calls Tryd.prog 5 #[.agg #[.int .i64 L, v]] w fun e w' => e = .returned (.bool true) ∧ Kept [] w w' := by
  have k0 : Kept [] w (w.alloc (.cells #[.int .i64 L, v] 24)) := (Kept.refl _ _).alloc _
  have g0 : (w.alloc (.cells #[.int .i64 L, v] 24)).heap[w.heap.size]? = some (.cells #[.int .i64 L, v] 24 (0, 0)) := heap_alloc_new w _
  obtain ⟨ad, cap, rfl⟩ := hv.shape
  have hd : decide (on.length ≤ 2147483647) = true := by simp; omega
  have hln := lenOf_le L on 2500 (by omega) hon
  go_enter Tryd.func5, Tryd.ntmps5
  go_wp2_with fail
  refine (zz_c L ad on.length cap _).mono ?_
  rintro e w1 ⟨rfl, k1⟩
  have h1 := k1.heap (by simp) g0
  have c0 : w1.cell? ⟨w.heap.size, 0, none⟩ = some (.int .i64 L) := (cell_of_heap h1).trans rfl
  have c1 : w1.cell? ⟨w.heap.size, 1, none⟩ = some (.slice ad on.length cap) := (cell_of_heap h1).trans rfl
  rw [hd]
  go_wp2_with fail
  refine (setGood_c L _ on _ (hv.kept (k0.trans0 k1)) hL hlen hon).mono ?_
  rintro e w2 ⟨s, rfl, hs, k2⟩
  obtain ⟨b, c, rfl⟩ := hs.shape
  have hlt2 := lt_of_heap (k2.heap (by simp) h1)
  clear c0 c1
  have h2a := k2.heap (by simp) h1
  have d0 : w2.cell? ⟨w.heap.size, 0, none⟩ = some (.int .i64 L) := (cell_of_heap h2a).trans rfl
  have d1 : w2.cell? ⟨w.heap.size, 1, none⟩ = some (.slice ad on.length cap) := (cell_of_heap h2a).trans rfl
  go_wp2_with fail
  have hs5 := hs.kept ((Kept.refl _ _).alloc (.cells #[.slice (some ⟨b, 0, none⟩) (lenOf L on) c, .bool true] 28))
  have k3 : Kept [] w2 (w2.alloc (.cells #[.slice (some ⟨b, 0, none⟩) (lenOf L on) c, .bool true] 28)) := (Kept.refl _ _).alloc _
  have gA := k3.heap (by simp) (k2.heap (by simp) h1)
  have gB := heap_alloc_new w2 (.cells #[.slice (some ⟨b, 0, none⟩) (lenOf L on) c, .bool true] 28)
  have hv5 := hv.kept (((k0.trans0 k1).trans0 k2).trans0 k3)
  have kW := ((k0.trans0 k1).trans0 k2).trans0 k3
  clear k3 hs k1 k2 h1 g0 k0 d0 d1 h2a
  obtain ⟨N, hN⟩ : ∃ N, lenOf L on = N := ⟨_, rfl⟩
  (try rw [hN] at hs5); (try rw [hN] at gB); (try rw [hN] at gA); (try rw [hN] at hln); (try rw [hN] at kW); (try rw [hN] at hv5)
  rw [hN]
  have HN := Lib.hid hN; clear hN
  have hWs : (w2.alloc (.cells #[.slice (some ⟨b, 0, none⟩) N c, .bool true] 28)).heap.size = w2.heap.size + 1 := by simp
  generalize (w2.alloc (.cells #[.slice (some ⟨b, 0, none⟩) N c, .bool true] 28)) = W at *
  have A0 : ∀ w', Kept [] W w' → w'.cell? ⟨w.heap.size, 0, none⟩ = some (.int .i64 L) := fun w' k => (cell_of_heap (k.heap (by simp) gA)).trans rfl
  have A1 : ∀ w', Kept [] W w' → w'.cell? ⟨w.heap.size, 1, none⟩ = some (.slice ad on.length cap) := fun w' k => (cell_of_heap (k.heap (by simp) gA)).trans rfl
  have B0 : ∀ w', Kept [] W w' → w'.cell? ⟨w2.heap.size, 0, none⟩ = some (.slice (some ⟨b, 0, none⟩) N c) := fun w' k => (cell_of_heap (k.heap (by simp) gB)).trans rfl
  have B1 : ∀ w', Kept [] W w' → w'.cell? ⟨w2.heap.size, 1, none⟩ = some (.bool true) := fun w' k => (cell_of_heap (k.heap (by simp) gB)).trans rfl
  have hTW := hT.kept0 kW
  have hNb : N ≤ 2500 := hln
  obtain ⟨i0, hi0, hz0, hz1, hz2⟩ := info_parts Tryd.info3
  have own0 : (W.alloc (.cells #[] 3)).ownsRow (w2.heap.size + 1) 3 1 (.slice (some ⟨w2.heap.size + 1, 0, none⟩) 0 0) (onL 0 (memOf on)).length (intsOf (onL 0 (memOf on))) := by
    have := World.ownsRow_made W (base := W.heap.size) (e := 3) (size := 1) #[] 0 (by simp) (by unfold maxLen; omega) rfl
    rw [hWs] at this
    simpa [onL, intsOf] using this
  have B00 := B0 W (Kept.refl _ _); have B11 := B1 W (Kept.refl _ _)
  have hWlt := World.block_lt_of_cell? _ _ B00
  go_wp2_with fail
  clear B00 B11
  go_loopw [5, 6, 23] (fun v a j wr => ∃ (z p : Nat), z ≤ N ∧ z ≤ p ∧ p ≤ N ∧ j = .int .i64 z ∧ a = .int .i64 p ∧ wr.ownsRow (w2.heap.size + 1) 3 1 v (onL p (memOf on)).length (intsOf (onL p (memOf on))) ∧ Kept [] W wr) (fun _ _ j _ => N - (intOf j).toNat)
  case atStart => exact ⟨0, 0, Nat.zero_le _, Nat.le_refl _, Nat.zero_le _, rfl, rfl, own0, (Kept.refl _ _).alloc _⟩
  case round =>
    obtain ⟨z, p, hz, hzp, hpN, rfl, rfl, hown, kr⟩ := hrel
    have hl := onL_le p (memOf on)
    by_cases hzN : z < N
    · have A0' := A0 wr kr; have A1' := A1 wr kr
      have hzN' : (z : Int) < (N : Int) := by omega
      go_wp2_with fail
      refine (implNextSet_c L p _ on _ (hv5.kept kr) (by omega) (by omega) (fun x hx => by have := hon x hx; omega) (by omega) (hTW.kept0 kr)).mono ?_
      rintro e w8 ⟨q, hq1, hq2, hq3, k8⟩
      rw [HN.out] at hq2 hq3
      have hown8 := ownsRow_kept hown k8
      have hs8 := (kr.trans0 k8).size
      rw [hWs] at hs8
      clear A0' A1'
      rcases hq3 with ⟨g1, g2, rfl⟩ | ⟨g1, rfl⟩
      · have R0 : onL (q + 1) (memOf on) = onL p (memOf on) ++ [q] := by rw [onL_yes g2, onL_none p q N _ hq1 (by omega) hq2]
        go_wp2_with (at_builtin; refine wpList_append_own _ rfl _ _ 22 rfl (w2.heap.size + 1) 3 i0 (.int .i64 0) 1 8 Tryd.underlying22 hi0 hz0 hz1 hz2 rfl (by decide) _ _ _ rfl (World.ownsRow.alloc hown8 _) ⟨w8.heap.size, 0, none⟩ 1 1 [.int .i64 (q : Nat)] rfl rfl ?c1 ?c2 ?c3 ?c4 ?c5 ?_)
        case c1 => exact cell_one_new _ _ _
        case c2 => intro u hu; simp at hu; subst hu; rfl
        case c3 => unfold maxLen; omega
        case c4 => omega
        case c5 => simp; omega
        intro v' w1 hown' hgrow _
        have R : w1.ownsRow (w2.heap.size + 1) 3 1 v' (onL (q + 1) (memOf on)).length (intsOf (onL (q + 1) (memOf on))) := by
          rw [R0]
          have e : intsOf (onL p (memOf on) ++ [q]) = intsOf (onL p (memOf on)) ++ [.int .i64 q] := by simp [intsOf]
          rw [e, List.length_append]; exact hown'
        have KR : Kept [] W w1 := ((kr.trans0 k8).alloc _).grown hgrow (fun j hj => by have := (hown8.lt j hj).1; right; omega)
        have HR := Lib.hid R; clear hown' hgrow hown8 hown R R0
        go_wp2_with fail
        go_roundw
        case rel => exact ⟨z + 1, q + 1, by omega, by omega, by omega, by go_num, by go_num, HR.out, KR⟩
        case measure => simp [intOf] <;> omega
      · have hNN : onL N (memOf on) = onL p (memOf on) := onL_none p N N _ hpN (Nat.le_refl _) (fun j h1 h2 h3 => hq2 j h1 (by omega) h3)
        have ownF : w8.ownsRow (w2.heap.size + 1) 3 1 u5 (onL N (memOf on)).length (intsOf (onL N (memOf on))) := by rw [hNN]; exact hown8
        have B0' := B0 w8 (kr.trans0 k8); have B1' := B1 w8 (kr.trans0 k8)
        have HF := Lib.hid ownF; clear ownF hown8 hown hNN
        go_wp2_with fail
        refine (on_c _ N (memOf on) true _ (hs5.kept (kr.trans0 k8)) (by omega)).mono ?_
        rintro e w9 ⟨v9, rfl, hown9, k9⟩
        go_wp2_with fail
        refine (same_c _ v9 (onL N (memOf on)) _ ((IntsAt.of_owns HF.out).kept k9) (IntsAt.of_owns hown9) (by have := onL_le N (memOf on); omega)).mono ?_
        rintro e w' ⟨rfl, rfl⟩
        go_wp2
        go_ret
        exact ⟨by simp, (kW.trans0 (kr.trans0 k8)).trans0 k9⟩
    · have hpN2 : p = N := by omega
      have hzN' : ¬ (z : Int) < (N : Int) := by omega
      rw [hpN2] at hown
      have B0' := B0 wr kr; have B1' := B1 wr kr
      go_wp2_with fail
      refine (on_c _ N (memOf on) true _ (hs5.kept kr) (by omega)).mono ?_
      rintro e w9 ⟨v9, rfl, hown9, k9⟩
      go_wp2_with fail
      refine (same_c _ v9 (onL N (memOf on)) _ ((IntsAt.of_owns hown).kept k9) (IntsAt.of_owns hown9) (by have := onL_le N (memOf on); omega)).mono ?_
      rintro e w' ⟨rfl, rfl⟩
      go_wp2
      go_ret
      exact ⟨by simp, (kW.trans0 kr).trans0 k9⟩

theorem fnNextAll_c (L : Int) (v : Value) (zs : List Int) (w : World) (hv : IntsZ w v zs) (hlen : zs.length ≤ 9223372036854775807) (hL : -9223372036854775808 ≤ L) (hL2 : L ≤ 9223372036854775807) (hT : TabW w) :
    Calls Tryd.prog 5 #[.agg #[.int .i64 L, v]] w fun e w' => e = .returned (.bool true) ∧ Kept [] w w' := by
  by_cases hg : Good L zs
  · have hg0 := hg
    have hg1 := hg
    obtain ⟨Ln, on, rfl, q1, q2, q3, q4⟩ := hv.good hg1
    exact fnNextAll_good Ln v on w q4 q1 q2 q3 hT
  · exact fnNextAll_bad L v zs w hv hlen hL hL2 hg

open Go.ChangeShapes Go.WideShapes Go.ChangeAt Go.Joins

set_option maxRecDepth 100000 in
theorem fnNextAll_lifted (os : Os) (started : os.Started) (H : Type) (enc : TypeId × Value → H) :
    ReturnsInHanded {} Tryd.checked os 5 .any (fun w args => (Rows.fnNextAllSpec.pre enc Tryd.prog Tryd.f5 [] false w args ∧ laidMetH Tryd.prog laid1 w) ∧ sizedMet enc Tryd.prog Tryd.f5 (OpenSpec.ofChange Rows.fnNextAllSpec) false w args)
      (Rows.fnNextAllSpec.post enc Tryd.prog Tryd.f5 false true false false) := by
  refine returnsInHanded_of_change_and (C := Tryd.checked) (X := fun w _ => laidMetH Tryd.prog laid1 w) (fun _ _ _ hh h => h.of_heap hh) Tryd.own started (by kernel_rfl) Tryd.func5
    (ChangeSpec.witness_shaped (enc := enc) (C := Tryd.checked) (os := os) (X := fun w _ => laidMetH Tryd.prog laid1 w) false (World.doorLaid Tryd.prog 400 os) #[.agg #[.int .i64 0, .slice none 0 0]] 8 rfl (World.shaped_of_RefB (by kernel_rfl) (by kernel_rfl)) (by kernel_rfl) (by kernel_rfl) (by kernel_rfl) (door_met os _)) ?_
  intro W base args ds gs before hval0 hW _ _ hL _
  have hval : ∀ (j : Nat) t v, Tryd.f5.params[j]? = some t → args[j]? = some v → Value.okWide Tryd.prog W .any base t v := hval0
  have hW' := hW
  obtain ⟨p0, q, hA0, hV, rfl, _, _⟩ := hW
  have hA : DataW.TrodAll enc Tryd.prog W 0 (fun _ => true) true Tryd.f5.params.toList args.toList ds p0 := hA0
  rw [Tryd.params5] at hA hval
  obtain ⟨v0, d0, rfl, rfl, h0⟩ := trodAll_one hA
  clear hA
  obtain ⟨rfl, rfl⟩ := trodVars_none hV
  obtain ⟨L0, s0, zs0, rfl, hz0, hlen0, hL0, hR0⟩ := bits_read (hval 0 24 v0 rfl rfl) h0
  clear hA0 hval0
  simp only [List.append_nil] at hW'
  have hlt0 : ∀ x ∈ p0, x.block < W.heap.size := fun x hx => by simpa using hW'.lt x (by simp [hx])
  have hT := tab_of_laid hL
  refine (fnNextAll_c L0 s0 zs0 W hz0 hlen0 hL0 hR0 hT).mono fun e W' ⟨he, hk⟩ => ?_
  subst he
  have hb := hk.below
  refine ⟨_, rfl, _, _, _, [], p0, [], hW', ?_, ?_, rfl, hb.frame _, fun h => by cases h⟩
  · exact trodAll_mk1 (shut_bool Tryd.underlying4 true)
  · exact trodAll_mk1 (Below.trod Tryd.laidOut (by kernel_rfl) (of_decide_eq_true (by kernel_rfl)) h0 hb hlt0)

theorem fnNextAll_row : Rows.FnNextAllSaid :=
  OpenClaim.holds_of_wide 5 Tryd.f5 rfl rfl rfl rfl rfl rfl rfl ⟨rfl, rfl, rfl, rfl, rfl⟩ rfl rfl rfl rfl rfl (by kernel_rfl) Tryd.func5 (by kernel_rfl)
    (of_decide_eq_true (by kernel_rfl)) (by unfold Func.isWrapper; first | (rw [if_pos (by decide +kernel)]; kernel_rfl) | (rw [if_neg (by decide +kernel)]; exact ⟨rfl, rfl⟩))
    (fun os started H enc _ => fnNextAll_lifted os started H enc)

theorem fnNextAllCard_holds : Rows.FnNextAllCardSaid :=
  Claim7.holds_tied_plain_at .later [] [.data] true (true, "071c253dde6df62798ad3f12a1a7cac913dd6821ae4f6b8b9b17d7da068a5a9d") false
    fnNextAll_row (fun _ h => by cases h) (by kernel_rfl) (fun _ h => by cases h) fnNextAll_row_tie rfl ⟨rfl, rfl⟩ (by kernel_rfl) rfl
    (fun f fn hf hfn => by
      obtain rfl : f = 5 := Option.some.inj ((show Tryd.prog.funcNamed "loop.example/pub-setsofbits/laws.FnNextAll" = some 5 by kernel_rfl).symm.trans hf) |>.symm
      obtain rfl : fn = Tryd.f5 := (Option.some.inj (Tryd.func5.symm.trans hfn)).symm
      exact ⟨by kernel_rfl, fun j t ht => by
        rw [Tryd.params5] at ht
        have hm : t ∈ [24] := by simpa using Array.mem_of_getElem? ht
        have hall : ([24].all fun u => !Tryd.prog.wantsStandIn u) = true := by kernel_rfl
        exact (show Tryd.prog.wantsStandIn t = false by simpa using List.all_eq_true.1 hall t hm)⟩)
    (by kernel_rfl)

end Go.Proofs.YtafbdkcbgjpolaaDoor

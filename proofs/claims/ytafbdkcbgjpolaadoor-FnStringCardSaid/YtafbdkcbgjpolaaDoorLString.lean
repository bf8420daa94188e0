/-
  laws.FnString: for every input; the listed variables are laid, tied to the program's text.
-/
import Derived.SevenTiedAt
import Derived.Test.YtafbdkcbgjpolaaDoorIStr
import Derived.Test.YtafbdkcbgjpolaaDoorLaid
import Derived.Test.YtafbdkcbgjpolaaDoorOwn
namespace Go.Proofs.YtafbdkcbgjpolaaDoor
set_option linter.unusedSimpArgs false
set_option linter.unusedVariables false
set_option maxRecDepth 100000
open Go.RowKit

set_option maxHeartbeats 1000000 in
set_option linter.unusedVariables false in
theorem fnString_bad (L : Int) (v : Value) (zs : List Int) (w : World) (hv : IntsZ w v zs) (hlen : zs.length ≤ 9223372036854775807) (hL : -9223372036854775808 ≤ L) (hL2 : L ≤ 9223372036854775807) (hb : ¬ (Good L zs)) :
    Calls Tryd.prog 10 #[.agg #[.int .i64 L, v]] w fun e w' => e = .returned (.bool true) ∧ Kept [] w w' := by
  have k0 : Kept [] w (w.alloc (.cells #[.int .i64 L, v] 24)) := (Kept.refl _ _).alloc _
  have g0 : (w.alloc (.cells #[.int .i64 L, v] 24)).heap[w.heap.size]? = some (.cells #[.int .i64 L, v] 24 (0, 0)) := heap_alloc_new w _
  obtain ⟨ad, m, cap, rfl⟩ : ∃ ad m cap, v = .slice ad m cap := by
    rcases hv with ⟨ad, cap, h3, h4⟩ | ⟨b, off, cap, h3, _, _⟩ <;> exact ⟨_, _, _, h3⟩
  by_cases hm : m ≤ 2147483647
  · have hd : decide (m ≤ 2147483647) = true := by simpa using hm
    by_cases hg : Good L zs
    · exact absurd hg hb
    · clear hb
      go_enter Tryd.func10, Tryd.ntmps10
      go_wp2_with fail
      refine (zz_c L ad m cap _).mono ?_
      rintro e w1 ⟨rfl, k1⟩
      have c0 : w1.cell? ⟨w.heap.size, 0, none⟩ = some (.int .i64 L) := (cell_of_heap (k1.heap (by simp) g0)).trans rfl
      have c1 : w1.cell? ⟨w.heap.size, 1, none⟩ = some (.slice ad m cap) := (cell_of_heap (k1.heap (by simp) g0)).trans rfl
      rw [hd]
      go_wp2_with fail
      refine (setBad_c L _ zs _ (hv.kept (k0.trans0 k1)) hg hlen hL hL2).mono ?_
      rintro e w2 ⟨rfl, k2⟩
      go_wp2_with fail
      go_ret
      exact ⟨rfl, (((k0.trans0 k1).trans0 k2).alloc _)⟩
  · have hd : decide (m ≤ 2147483647) = false := by simpa using hm
    clear hb
    go_enter Tryd.func10, Tryd.ntmps10
    go_wp2_with fail
    refine (zz_c L ad m cap _).mono ?_
    rintro e w1 ⟨rfl, k1⟩
    rw [hd]
    go_wp2_with fail
    go_ret
    exact ⟨rfl, k0.trans0 k1⟩

set_option maxHeartbeats 2000000 in
set_option linter.unusedVariables false in
theorem fnString_good (L : Nat) (v : Value) (on : List Nat) (w : World) (hv : IntsAt w v on) (hL : L ≤ 2000) (hlen : on.length ≤ 400) (hon : ∀ x ∈ on, x < 2500) (hT : TabW w) (hP : Lib.TabIs Tryd.prog w "internal/strconv.uint64pow10" .u64 Lib.pow10Tab) :
    Calls Tryd.prog 10 #[.agg #[.int .i64 L, v]] w fun e w' => e = .returned (.bool true) ∧ Kept [] w w' := by
  have k0 : Kept [] w (w.alloc (.cells #[.int .i64 L, v] 24)) := (Kept.refl _ _).alloc _
  have g0 : (w.alloc (.cells #[.int .i64 L, v] 24)).heap[w.heap.size]? = some (.cells #[.int .i64 L, v] 24 (0, 0)) := heap_alloc_new w _
  obtain ⟨ad, cap, rfl⟩ := hv.shape
  have hd : decide (on.length ≤ 2147483647) = true := by simp; omega
  have hln := lenOf_le L on 2500 (by omega) hon
  go_enter Tryd.func10, Tryd.ntmps10
  go_wp2_with fail
  refine (zz_c L ad on.length cap _).mono ?_
  rintro e w1 ⟨rfl, k1⟩
  have h1 := k1.heap (by simp) g0
  have c0 : w1.cell? ⟨w.heap.size, 0, none⟩ = some (.int .i64 L) := (cell_of_heap h1).trans rfl
  have c1 : w1.cell? ⟨w.heap.size, 1, none⟩ = some (.slice ad on.length cap) := (cell_of_heap h1).trans rfl
  rw [hd]
  go_wp2_with fail
  refine (setGood_c L _ on _ (hv.kept (k0.trans0 k1)) hL hlen hon).mono ?_
  rintro e w2 ⟨s, rfl, hs, k2⟩
  obtain ⟨b, c, rfl⟩ := hs.shape
  have hlt2 := lt_of_heap (k2.heap (by simp) h1)
  clear c0 c1
  have h2a := k2.heap (by simp) h1
  have d0 : w2.cell? ⟨w.heap.size, 0, none⟩ = some (.int .i64 L) := (cell_of_heap h2a).trans rfl
  have d1 : w2.cell? ⟨w.heap.size, 1, none⟩ = some (.slice ad on.length cap) := (cell_of_heap h2a).trans rfl
  go_wp2_with fail
  have hs5 := hs.kept ((Kept.refl _ _).alloc (.cells #[.slice (some ⟨b, 0, none⟩) (lenOf L on) c, .bool true] 28))
  have k3 : Kept [] w2 (w2.alloc (.cells #[.slice (some ⟨b, 0, none⟩) (lenOf L on) c, .bool true] 28)) := (Kept.refl _ _).alloc _
  have gA := k3.heap (by simp) (k2.heap (by simp) h1)
  have gB := heap_alloc_new w2 (.cells #[.slice (some ⟨b, 0, none⟩) (lenOf L on) c, .bool true] 28)
  have hv5 := hv.kept (((k0.trans0 k1).trans0 k2).trans0 k3)
  have kW := ((k0.trans0 k1).trans0 k2).trans0 k3
  clear k3 hs k1 k2 h1 g0 k0 d0 d1 h2a
  obtain ⟨N, hN⟩ : ∃ N, lenOf L on = N := ⟨_, rfl⟩
  (try rw [hN] at hs5); (try rw [hN] at gB); (try rw [hN] at gA); (try rw [hN] at hln); (try rw [hN] at kW); (try rw [hN] at hv5)
  rw [hN]
  have HN := Lib.hid hN; clear hN
  generalize (w2.alloc (.cells #[.slice (some ⟨b, 0, none⟩) N c, .bool true] 28)) = W at *
  have A0 : ∀ w', Kept [] W w' → w'.cell? ⟨w.heap.size, 0, none⟩ = some (.int .i64 L) := fun w' k => (cell_of_heap (k.heap (by simp) gA)).trans rfl
  have A1 : ∀ w', Kept [] W w' → w'.cell? ⟨w.heap.size, 1, none⟩ = some (.slice ad on.length cap) := fun w' k => (cell_of_heap (k.heap (by simp) gA)).trans rfl
  have B0 : ∀ w', Kept [] W w' → w'.cell? ⟨w2.heap.size, 0, none⟩ = some (.slice (some ⟨b, 0, none⟩) N c) := fun w' k => (cell_of_heap (k.heap (by simp) gB)).trans rfl
  have B1 : ∀ w', Kept [] W w' → w'.cell? ⟨w2.heap.size, 1, none⟩ = some (.bool true) := fun w' k => (cell_of_heap (k.heap (by simp) gB)).trans rfl
  have hNb : N ≤ 2500 := hln
  have hTW := hT.kept0 kW
  have hPW := tabIs_kept hP kW
  have hs0 : W.heap.size = W.heap.size := rfl
  clear hs0
  refine (on_c _ N (memOf on) true _ hs5 (by omega)).mono ?_
  rintro e w7 ⟨v7, rfl, hown, k7⟩
  have hvl := IntsAt.of_owns hown
  have hll := onL_le N (memOf on)
  have hlm := onL_lt N (memOf on)
  clear hown
  obtain ⟨ad7, cp7, rfl⟩ := hvl.shape
  obtain ⟨l, hl⟩ : ∃ l, onL N (memOf on) = l := ⟨_, rfl⟩
  rw [hl] at hvl hll hlm ⊢
  obtain ⟨C, hC⟩ : ∃ C, l.length = C := ⟨_, rfl⟩
  rw [hC] at hvl hll ⊢
  have hC2 : C ≤ 2500 := by omega
  have hl6 : ∀ x ∈ l, x < 1000000 := fun x hx => by have := hlm x hx; omega
  have htx := tx_le l hl6
  have HL := Lib.hid hl; have HC := Lib.hid hC; have HTX := Lib.hid htx; have HL6 := Lib.hid hl6
  clear hl hC htx hl6 hlm
  have A0' := A0 w7 k7; have A1' := A1 w7 k7
  go_wp2_with fail
  go_loopw [5, 21] (fun s j wr => ∃ k : Nat, k ≤ C ∧ j = .int .i64 k ∧ s = .string ⟨(tx l k).toArray⟩ ∧ Kept [] w7 wr) (fun _ j _ => C - (intOf j).toNat)
  case atStart => exact ⟨0, Nat.zero_le _, rfl, rfl, Kept.refl _ _⟩
  case round =>
    obtain ⟨k, hk, rfl, rfl, k7r⟩ := hrel
    have kr := k7.trans0 k7r
    clear A0' A1'
    have hk0 : (0 : Int) ≤ (k : Int) := by omega
    have hT2 := HTX.out k
    by_cases hkC : k < C
    · have hkC' : (k : Int) < (C : Int) := by omega
      have hkl : k < l.length := by rw [HC.out]; exact hkC
      obtain ⟨bs, os, rfl, hcx0⟩ := hvl.posn k hkl
      have hcx := k7r.cell (by simp) hcx0
      have hx6 := HL6.out (l.getD k 0) (by rw [getD_in _ _ _ hkl]; exact List.getElem_mem _)
      obtain ⟨x, hx⟩ : ∃ x, l.getD k 0 = x := ⟨_, rfl⟩
      rw [hx] at hcx hx6
      have hdl := digits_le x (by omega)
      obtain ⟨D, hD⟩ : ∃ D, Lib.decDigits x = D := ⟨_, rfl⟩
      rw [hD] at hdl
      by_cases hk1 : k = 0
      · subst hk1
        have htn := tx_one l
        rw [hx, hD] at htn
        rw [tx_zero] at htn ⊢
        rw [Nat.add_zero] at hcx
        have HTN := Lib.hid htn; have HD := Lib.hid hD
        have hl1 : ¬ 9223372036854775807 < 1 + D.length := by omega
        clear hcx0 hx htn hD hT2 hkl
        go_wp2_with fail
        refine (number_c x hx6 _).mono ?_
        rintro e w8 ⟨rfl, k8⟩
        rw [HD.out]
        go_wp2_with fail
        go_roundw
        case rel => exact ⟨1, by omega, by go_num, by rw [HTN.out]; first | rfl | simp [← str_append], k7r.trans0 k8⟩
        case measure => simp [intOf] <;> omega
      · have htn := tx_more l k (by omega)
        rw [hx, hD] at htn
        obtain ⟨T, hT3⟩ : ∃ T, tx l k = T := ⟨_, rfl⟩
        rw [hT3] at hT2 htn ⊢
        have HTN := Lib.hid htn; have HD := Lib.hid hD
        have hk1' : (0 : Int) < (k : Int) := by omega
        have hl1 : ¬ 9223372036854775807 < T.length + 1 := by omega
        have hl2 : ¬ 9223372036854775807 < T.length + 1 + D.length := by omega
        clear hcx0 hx htn hD hT2 hkl hT3
        go_wp2_with fail
        refine (number_c x hx6 _).mono ?_
        rintro e w8 ⟨rfl, k8⟩
        rw [HD.out]
        go_wp2_with fail
        go_roundw
        case rel => exact ⟨k + 1, by omega, by go_num, by rw [HTN.out]; first | rfl | simp [← str_append], k7r.trans0 k8⟩
        case measure => simp [intOf] <;> omega
    · obtain rfl : k = C := by omega
      have hkC' : ¬ (k : Int) < (k : Int) := by omega
      have A0' := A0 wr kr; have A1' := A1 wr kr
      obtain ⟨T, hT3⟩ : ∃ T, tx l k = T := ⟨_, rfl⟩
      rw [hT3] at hT2 ⊢
      have HT3 := Lib.hid hT3; clear hT3
      have hl1 : ¬ 9223372036854775807 < T.length + 1 := by omega
      go_wp2_with fail
      refine (implString_c L _ on _ (hv5.kept kr) (by omega) (by omega) (fun x hx => by have := hon x hx; omega) (hTW.kept0 kr) (tabIs_kept hPW kr) l (by rw [HN.out]; exact HL.out)).mono ?_
      rintro e w8 ⟨rfl, k8⟩
      rw [HC.out, HT3.out]
      go_wp2_with fail
      have heq : (T ++ [125] == (({ data := T.toArray } : ByteArray) ++ { data := #[125] }).toList) = true := by
        have h1 : (({ data := T.toArray } : ByteArray) ++ { data := #[125] }) = ⟨(T ++ [125]).toArray⟩ := str_append T [125]
        rw [h1]
        simp
      rw [heq]
      go_ret
      exact ⟨rfl, (kW.trans0 kr).trans0 k8⟩

theorem fnString_c (L : Int) (v : Value) (zs : List Int) (w : World) (hv : IntsZ w v zs) (hlen : zs.length ≤ 9223372036854775807) (hL : -9223372036854775808 ≤ L) (hL2 : L ≤ 9223372036854775807) (hT : TabW w) (hP : Lib.TabIs Tryd.prog w "internal/strconv.uint64pow10" .u64 Lib.pow10Tab) :
    Calls Tryd.prog 10 #[.agg #[.int .i64 L, v]] w fun e w' => e = .returned (.bool true) ∧ Kept [] w w' := by
  by_cases hg : Good L zs
  · have hg0 := hg
    have hg1 := hg
    obtain ⟨Ln, on, rfl, q1, q2, q3, q4⟩ := hv.good hg1
    exact fnString_good Ln v on w q4 q1 q2 q3 hT hP
  · exact fnString_bad L v zs w hv hlen hL hL2 hg

open Go.ChangeShapes Go.WideShapes Go.ChangeAt Go.Joins
def laid4 : List (String × DataW Unit) := [("math/bits.deBruijn32tab", Rows.laid_math_bits_deBruijn32tab), ("math/bits.deBruijn64tab", Rows.laid_math_bits_deBruijn64tab), ("internal/strconv.uint64pow10", Rows.laid_internal_strconv_uint64pow10), ("bytes.ErrTooLarge", Rows.laid_bytes_ErrTooLarge)]
theorem tab_of_laid4 {W : World} (h : laidMetH Tryd.prog laid4 W) : TabW W := by
  have h1 := h.filter (fun x => x.1 == "math/bits.deBruijn64tab")
  have e : laid4.filter (fun x => x.1 == "math/bits.deBruijn64tab") = laid1 := by kernel_rfl
  rw [e] at h1
  exact tab_of_laid h1
theorem Tryd.gPow : Tryd.prog.globalNamed "internal/strconv.uint64pow10" = some 2 := by kernel_rfl
theorem Tryd.tPow : (Tryd.prog.globals[2]?).map (·.type) = some 96 := by kernel_rfl
theorem Tryd.cellsU64 : Tryd.prog.cellsOf 68 = 1 := by kernel_rfl
theorem Tryd.cellsPow : Tryd.prog.cellsOf 96 = 20 := by kernel_rfl
theorem pow_of_laid4 {W : World} (h : laidMetH Tryd.prog laid4 W) : Lib.TabIs Tryd.prog W "internal/strconv.uint64pow10" .u64 Lib.pow10Tab := by
  have h1 := h.filter (fun x => x.1 == "internal/strconv.uint64pow10")
  have e : laid4.filter (fun x => x.1 == "internal/strconv.uint64pow10") = [("internal/strconv.uint64pow10", Lib.tabData .u64 Lib.pow10Tab)] := by kernel_rfl
  rw [e, MakeChecks.laidMetH_plain _ _ _ (by kernel_rfl)] at h1
  exact Lib.tabIs_of_head Tryd.gPow Tryd.tPow Tryd.underlying96 Tryd.underlying68 Tryd.cellsU64 Tryd.cellsPow h1
theorem door_met4 (os : Os) (args : Array Value) : laidMetH Tryd.prog laid4 ((World.doorLaid Tryd.prog 400 os).forCall (fun _ _ => 0) ⟨#[], args, []⟩).memory :=
  laidMetH_of_parts3 (fuel := 80) (laidMet_of_run' 80 (by kernel_rfl) (by kernel_rfl)) (by kernel_rfl) (by kernel_rfl)
open Go.ChangeShapes Go.WideShapes Go.ChangeAt Go.Joins

set_option maxRecDepth 100000 in
theorem fnString_lifted (os : Os) (started : os.Started) (H : Type) (enc : TypeId × Value → H) :
    ReturnsInHanded {} Tryd.checked os 10 .any (fun w args => (Rows.fnStringSpec.pre enc Tryd.prog Tryd.f10 [] false w args ∧ laidMetH Tryd.prog laid4 w) ∧ sizedMet enc Tryd.prog Tryd.f10 (OpenSpec.ofChange Rows.fnStringSpec) false w args)
      (Rows.fnStringSpec.post enc Tryd.prog Tryd.f10 false true false false) := by
  refine returnsInHanded_of_change_and (C := Tryd.checked) (X := fun w _ => laidMetH Tryd.prog laid4 w) (fun _ _ _ hh h => h.of_heap hh) Tryd.own started (by kernel_rfl) Tryd.func10
    (ChangeSpec.witness_shaped (enc := enc) (C := Tryd.checked) (os := os) (X := fun w _ => laidMetH Tryd.prog laid4 w) false (World.doorLaid Tryd.prog 400 os) #[.agg #[.int .i64 0, .slice none 0 0]] 8 rfl (World.shaped_of_RefB (by kernel_rfl) (by kernel_rfl)) (by kernel_rfl) (by kernel_rfl) (by kernel_rfl) (door_met4 os _)) ?_
  intro W base args ds gs before hval0 hW _ _ hL _
  have hval : ∀ (j : Nat) t v, Tryd.f10.params[j]? = some t → args[j]? = some v → Value.okWide Tryd.prog W .any base t v := hval0
  have hW' := hW
  obtain ⟨p0, q, hA0, hV, rfl, _, _⟩ := hW
  have hA : DataW.TrodAll enc Tryd.prog W 0 (fun _ => true) true Tryd.f10.params.toList args.toList ds p0 := hA0
  rw [Tryd.params10] at hA hval
  obtain ⟨v0, d0, rfl, rfl, h0⟩ := trodAll_one hA
  clear hA
  obtain ⟨rfl, rfl⟩ := trodVars_none hV
  obtain ⟨L0, s0, zs0, rfl, hz0, hlen0, hL0, hR0⟩ := bits_read (hval 0 24 v0 rfl rfl) h0
  clear hA0 hval0
  simp only [List.append_nil] at hW'
  have hlt0 : ∀ x ∈ p0, x.block < W.heap.size := fun x hx => by simpa using hW'.lt x (by simp [hx])
  have hT := tab_of_laid4 hL
  have hP := pow_of_laid4 hL
  refine (fnString_c L0 s0 zs0 W hz0 hlen0 hL0 hR0 hT hP).mono fun e W' ⟨he, hk⟩ => ?_
  subst he
  have hb := hk.below
  refine ⟨_, rfl, _, _, _, [], p0, [], hW', ?_, ?_, rfl, hb.frame _, fun h => by cases h⟩
  · exact trodAll_mk1 (shut_bool Tryd.underlying4 true)
  · exact trodAll_mk1 (Below.trod Tryd.laidOut (by kernel_rfl) (of_decide_eq_true (by kernel_rfl)) h0 hb hlt0)

theorem fnString_row : Rows.FnStringSaid :=
  OpenClaim.holds_of_wide 10 Tryd.f10 rfl rfl rfl rfl rfl rfl rfl ⟨rfl, rfl, rfl, rfl, rfl⟩ rfl rfl rfl rfl rfl (by kernel_rfl) Tryd.func10 (by kernel_rfl)
    (of_decide_eq_true (by kernel_rfl)) (by unfold Func.isWrapper; first | (rw [if_pos (by decide +kernel)]; kernel_rfl) | (rw [if_neg (by decide +kernel)]; exact ⟨rfl, rfl⟩))
    (fun os started H enc _ => fnString_lifted os started H enc)

theorem fnStringCard_holds : Rows.FnStringCardSaid :=
  Claim7.holds_tied_plain_at .later [] [.data, .data, .data, .sentinel] true (true, "071c253dde6df62798ad3f12a1a7cac913dd6821ae4f6b8b9b17d7da068a5a9d") false
    fnString_row (fun _ h => by cases h) (by kernel_rfl) (fun _ h => by cases h) fnString_row_tie rfl ⟨rfl, rfl⟩ (by kernel_rfl) rfl
    (fun f fn hf hfn => by
      obtain rfl : f = 10 := Option.some.inj ((show Tryd.prog.funcNamed "loop.example/pub-setsofbits/laws.FnString" = some 10 by kernel_rfl).symm.trans hf) |>.symm
      obtain rfl : fn = Tryd.f10 := (Option.some.inj (Tryd.func10.symm.trans hfn)).symm
      exact ⟨by kernel_rfl, fun j t ht => by
        rw [Tryd.params10] at ht
        have hm : t ∈ [24] := by simpa using Array.mem_of_getElem? ht
        have hall : ([24].all fun u => !Tryd.prog.wantsStandIn u) = true := by kernel_rfl
        exact (show Tryd.prog.wantsStandIn t = false by simpa using List.all_eq_true.1 hall t hm)⟩)
    (by kernel_rfl)

end Go.Proofs.YtafbdkcbgjpolaaDoor

/-
  laws.FnRankSelect: for every input.
-/
import Derived.Test.YtpkojfcenhieeaaISelect
import Derived.Test.YtpkojfcenhieeaaIRank
import Derived.Test.YtpkojfcenhieeaaICount
import Derived.Test.YtpkojfcenhieeaaRow
namespace Go.Proofs.Ytpkojfcenhieeaa
set_option linter.unusedSimpArgs false
set_option linter.unusedVariables false
open Go.RowKit

set_option maxHeartbeats 1000000 in
set_option linter.unusedVariables false in
theorem fnRankSelect_bad (L : Int) (v : Value) (zs : List Int) (w : World) (hv : IntsZ w v zs) (hlen : zs.length ≤ 9223372036854775807) (hL : -9223372036854775808 ≤ L) (hL2 : L ≤ 9223372036854775807) (hb : ¬ (Good L zs)) :
    Calls Try.prog 7 #[.agg #[.int .i64 L, v]] w fun e w' => e = .returned (.bool true) ∧ Kept [] w w' := by
  have k0 : Kept [] w (w.alloc (.cells #[.int .i64 L, v] 24)) := (Kept.refl _ _).alloc _
  have g0 : (w.alloc (.cells #[.int .i64 L, v] 24)).heap[w.heap.size]? = some (.cells #[.int .i64 L, v] 24 (0, 0)) := heap_alloc_new w _
  obtain ⟨ad, m, cap, rfl⟩ : ∃ ad m cap, v = .slice ad m cap := by
    rcases hv with ⟨ad, cap, h3, h4⟩ | ⟨b, off, cap, h3, _, _⟩ <;> exact ⟨_, _, _, h3⟩
  by_cases hm : m ≤ 2147483647
  · have hd : decide (m ≤ 2147483647) = true := by simpa using hm
    by_cases hg : Good L zs
    · exact absurd hg hb
    · clear hb
      go_enter Try.func7, Try.ntmps7
      go_wp2_with fail
      refine (zz_c L ad m cap _).mono ?_
      rintro e w1 ⟨rfl, k1⟩
      have c0 : w1.cell? ⟨w.heap.size, 0, none⟩ = some (.int .i64 L) := (cell_of_heap (k1.heap (by simp) g0)).trans rfl
      have c1 : w1.cell? ⟨w.heap.size, 1, none⟩ = some (.slice ad m cap) := (cell_of_heap (k1.heap (by simp) g0)).trans rfl
      rw [hd]
      go_wp2_with fail
      refine (setBad_c L _ zs _ (hv.kept (k0.trans0 k1)) hg hlen hL hL2).mono ?_
      rintro e w2 ⟨rfl, k2⟩
      go_wp2_with fail
      go_ret
      exact ⟨rfl, (((k0.trans0 k1).trans0 k2).alloc _)⟩
  · have hd : decide (m ≤ 2147483647) = false := by simpa using hm
    clear hb
    go_enter Try.func7, Try.ntmps7
    go_wp2_with fail
    refine (zz_c L ad m cap _).mono ?_
    rintro e w1 ⟨rfl, k1⟩
    rw [hd]
    go_wp2_with fail
    go_ret
    exact ⟨rfl, k0.trans0 k1⟩

set_option maxHeartbeats 2000000 in
set_option linter.unusedVariables false in
theorem fnRankSelect_good (L : Nat) (v : Value) (on : List Nat) (w : World) (hv : IntsAt w v on) (hL : L ≤ 2000) (hlen : on.length ≤ 400) (hon : ∀ x ∈ on, x < 2500) :
    Calls Try.prog 7 #[.agg #[.int .i64 L, v]] w fun e w' => e = .returned (.bool true) ∧ Kept [] w w' := by
  have k0 : Kept [] w (w.alloc (.cells #[.int .i64 L, v] 24)) := (Kept.refl _ _).alloc _
  have g0 : (w.alloc (.cells #[.int .i64 L, v] 24)).heap[w.heap.size]? = some (.cells #[.int .i64 L, v] 24 (0, 0)) := heap_alloc_new w _
  obtain ⟨ad, cap, rfl⟩ := hv.shape
  have hd : decide (on.length ≤ 2147483647) = true := by simp; omega
  have hln := lenOf_le L on 2500 (by omega) hon
  go_enter Try.func7, Try.ntmps7
  go_wp2_with fail
  refine (zz_c L ad on.length cap _).mono ?_
  rintro e w1 ⟨rfl, k1⟩
  have h1 := k1.heap (by simp) g0
  have c0 : w1.cell? ⟨w.heap.size, 0, none⟩ = some (.int .i64 L) := (cell_of_heap h1).trans rfl
  have c1 : w1.cell? ⟨w.heap.size, 1, none⟩ = some (.slice ad on.length cap) := (cell_of_heap h1).trans rfl
  rw [hd]
  go_wp2_with fail
  refine (setGood_c L _ on _ (hv.kept (k0.trans0 k1)) hL hlen hon).mono ?_
  rintro e w2 ⟨s, rfl, hs, k2⟩
  obtain ⟨b, c, rfl⟩ := hs.shape
  have hlt2 := lt_of_heap (k2.heap (by simp) h1)
  clear c0 c1
  go_wp2_with fail
  have hs5 := hs.kept ((Kept.refl _ _).alloc (.cells #[.slice (some ⟨b, 0, none⟩) (lenOf L on) c, .bool true] 28))
  have k3 : Kept [] w2 (w2.alloc (.cells #[.slice (some ⟨b, 0, none⟩) (lenOf L on) c, .bool true] 28)) := (Kept.refl _ _).alloc _
  have gA := k3.heap (by simp) (k2.heap (by simp) h1)
  have gB := heap_alloc_new w2 (.cells #[.slice (some ⟨b, 0, none⟩) (lenOf L on) c, .bool true] 28)
  have hv5 := hv.kept (((k0.trans0 k1).trans0 k2).trans0 k3)
  have kW := ((k0.trans0 k1).trans0 k2).trans0 k3
  clear k3 hs k1 k2 h1 g0 k0
  obtain ⟨N, hN⟩ : ∃ N, lenOf L on = N := ⟨_, rfl⟩
  rw [hN] at hs5 gB gA hln kW hv5 ⊢
  have HN := Lib.hid hN; clear hN
  generalize (w2.alloc (.cells #[.slice (some ⟨b, 0, none⟩) N c, .bool true] 28)) = W at *
  have A0 : ∀ w', Kept [] W w' → w'.cell? ⟨w.heap.size, 0, none⟩ = some (.int .i64 L) := fun w' k => (cell_of_heap (k.heap (by simp) gA)).trans rfl
  have A1 : ∀ w', Kept [] W w' → w'.cell? ⟨w.heap.size, 1, none⟩ = some (.slice ad on.length cap) := fun w' k => (cell_of_heap (k.heap (by simp) gA)).trans rfl
  have B0 : ∀ w', Kept [] W w' → w'.cell? ⟨w2.heap.size, 0, none⟩ = some (.slice (some ⟨b, 0, none⟩) N c) := fun w' k => (cell_of_heap (k.heap (by simp) gB)).trans rfl
  have B1 : ∀ w', Kept [] W w' → w'.cell? ⟨w2.heap.size, 1, none⟩ = some (.bool true) := fun w' k => (cell_of_heap (k.heap (by simp) gB)).trans rfl
  refine (on_c _ N (memOf on) true _ hs5 (by omega)).mono ?_
  rintro e w7 ⟨v7, rfl, hown, k7⟩
  have hvl := IntsAt.of_owns hown
  have hll := onL_le N (memOf on)
  obtain ⟨m, hm⟩ : ∃ m, (onL N (memOf on)).length = m := ⟨_, rfl⟩
  obtain ⟨ad7, cp7, hv7⟩ := hvl.shape
  have hcl : ∀ q, q < m → ∃ b o, ad7 = some ⟨b, o, none⟩ ∧ w7.cell? ⟨b, o + q, none⟩ = some (.int .i64 ((onL N (memOf on)).getD q 0 : Nat)) := by
    intro q hq
    rcases hvl with ⟨ad', cp', h1, h2⟩ | ⟨b', o', cp', h1, h2⟩
    · rw [h2] at hm; simp at hm; omega
    · rw [h1] at hv7; cases hv7; exact ⟨b', o', rfl, h2 q (by omega)⟩
  subst hv7
  have hXl : ∀ q, q < m → (onL N (memOf on)).getD q 0 < N := fun q hq => onL_getD_lt N (memOf on) q (by omega)
  have hSel : ∀ q, q < m → selV (lenOf L on) (memOf on) q = (onL N (memOf on)).getD q 0 := fun q hq => by rw [HN.out]; exact selV_in (by rw [hm]; exact hq)
  have hRank : ∀ q, q < m → (onL ((onL N (memOf on)).getD q 0 + 1) (memOf on)).length = q + 1 := fun q hq => onL_rank N (memOf on) q (by omega)
  rw [hm] at hll ⊢
  have HM := Lib.hid hm; have HCL := Lib.hid hcl; have HXL := Lib.hid hXl; have HSEL := Lib.hid hSel; have HRANK := Lib.hid hRank
  clear hm hown hvl hcl hXl hSel hRank
  have A0' := A0 w7 k7; have A1' := A1 w7 k7; have B0' := B0 w7 k7; have B1' := B1 w7 k7
  go_wp2_with fail
  clear A0' A1' B0' B1'
  go_loopw [20] (fun v wr => ∃ q : Nat, q ≤ m ∧ v = .int .i64 q ∧ Kept [] w7 wr) (fun v _ => m - (intOf v).toNat)
  case atStart => exact ⟨0, Nat.zero_le _, rfl, Kept.refl _ _⟩
  case round =>
    obtain ⟨q, hq, rfl, kr⟩ := hrel
    by_cases hqm : q < m
    · obtain ⟨b7, o7, rfl, cx0⟩ := HCL.out q hqm
      have cx := kr.cell (by simp) cx0
      have hXl := HXL.out q hqm
      have hSel := HSEL.out q hqm
      have hRank := HRANK.out q hqm
      generalize (onL N (memOf on)).getD q 0 = X at *
      have HS := Lib.hid hSel; have HR := Lib.hid hRank; clear hSel hRank cx0
      have A0' := A0 wr (k7.trans0 kr); have A1' := A1 wr (k7.trans0 kr)
      go_wp2_with fail
      refine (implSelect_c L q _ on _ (hv5.kept (k7.trans0 kr)) (by have := HN.out; omega) (by omega) (fun x hx => by have := hon x hx; omega) (by omega)).mono ?_
      rintro e w9 ⟨rfl, k9⟩
      rw [HS.out]
      clear A0' A1'
      have A0' := A0 w9 ((k7.trans0 kr).trans0 k9); have A1' := A1 w9 ((k7.trans0 kr).trans0 k9)
      go_wp2_with fail
      refine (implRank_c L X _ on _ (hv5.kept ((k7.trans0 kr).trans0 k9)) (by have := HN.out; omega) (by omega) (fun x hx => by have := hon x hx; omega) (by omega) (by have := HN.out; omega)).mono ?_
      rintro e w10 ⟨rfl, k10⟩
      rw [HR.out]
      go_wp2_with fail
      go_roundw
      case rel => exact ⟨q + 1, by omega, by go_num, (kr.trans0 k9).trans0 k10⟩
      case measure => simp [intOf] <;> omega
    · obtain rfl : q = m := by omega
      have kZ := k7.trans0 kr
      go_wp2_with fail
      have hc9 : (onL (lenOf L on) (memOf on)).length = q := by rw [HN.out]; exact HM.out
      have HC9 := Lib.hid hc9; clear hc9
      refine wp_region_held_drew (S := fun w' => Kept [] W w') (by kernel_rfl) kZ.drew (fun hS => ?_)
      refine takeD 0 39 (v := ?_) rfl rfl (by kernel_rfl) (by kernel_rfl) (by kernel_rfl) (fun _ _ _ h => h) (Or.inl ⟨by kernel_rfl, ?_⟩) hS ?_
      rotate_left 1
      · (intro w' hw'; (try dsimp only at hw'); go_simp; try with_reducible rfl)
      simp only [List.setIfInBounds_toArray, List.set_cons_zero, List.set_cons_succ]
      refine takeD 2 41 (v := ?_) rfl rfl (by kernel_rfl) (by kernel_rfl) (by kernel_rfl) (fun _ _ _ h => h) (Or.inl ⟨by kernel_rfl, ?_⟩) hS ?_
      rotate_left 1
      · (intro w' hw'; (try dsimp only at hw'); go_simp; try with_reducible rfl)
      simp only [List.setIfInBounds_toArray, List.set_cons_zero, List.set_cons_succ]
      refine wpAnyH_ready (rs := [1]) (by kernel_rfl) (by simp) ?_
      refine AllReadyH.cons rfl (fun K hK => ?_) AllReadyH.nil
      go_simp
      refine (implCount_c L _ on _ (hv5.kept hS) (by have := HN.out; omega) (by omega) (fun x hx => by have := hon x hx; omega)).mono ?_
      rintro e w11 ⟨rfl, k11⟩
      rw [HC9.out]
      refine hK.out _ _ ?_ (fun hS1 => ?_)
      · exact hS.trans0 k11
      clear hK K
      (try simp only [Act.put, List.setIfInBounds_toArray, List.set_cons_zero, List.set_cons_succ])
      refine wpAnyH_ready (rs := [3]) (by kernel_rfl) (by simp) ?_
      refine AllReadyH.cons rfl (fun K hK => ?_) AllReadyH.nil
      go_simp
      refine (on_c _ N (memOf on) true _ (hs5.kept hS1) (by omega)).mono ?_
      rintro e w12 ⟨v12, rfl, hown12, k12⟩
      obtain ⟨ad12, cp12, rfl⟩ := (IntsAt.of_owns hown12).shape
      rw [HM.out]
      clear hown12
      refine hK.out _ _ ?_ (fun hS2 => ?_)
      · exact hS1.trans0 k12
      clear hK K
      (try simp only [Act.put, List.setIfInBounds_toArray, List.set_cons_zero, List.set_cons_succ])
      refine takeD 4 43 (v := ?_) rfl rfl (by kernel_rfl) (by kernel_rfl) (by kernel_rfl) (fun _ _ _ h => h) (Or.inl ⟨by kernel_rfl, ?_⟩) hS2 ?_
      rotate_left 1
      · (intro w' hw'; (try dsimp only at hw'); go_simp; try with_reducible rfl)
      simp only [List.setIfInBounds_toArray, List.set_cons_zero, List.set_cons_succ]
      refine takeD 5 44 (v := ?_) rfl rfl (by kernel_rfl) (by kernel_rfl) (by kernel_rfl) (fun _ _ _ h => h) (Or.inl ⟨by kernel_rfl, ?_⟩) hS2 ?_
      rotate_left 1
      · (intro w' hw'; (try dsimp only at hw'); go_simp; try with_reducible rfl)
      simp only [List.setIfInBounds_toArray, List.set_cons_zero, List.set_cons_succ]
      refine takeD 6 2 (v := ?_) rfl rfl (by kernel_rfl) (by kernel_rfl) (by kernel_rfl) (fun _ _ _ h => h) (Or.inl ⟨by kernel_rfl, ?_⟩) hS2 ?_
      rotate_left 1
      · (intro w' hw'; (try dsimp only at hw'); go_simp; try with_reducible rfl)
      simp only [List.setIfInBounds_toArray, List.set_cons_zero, List.set_cons_succ]
      refine wpAnyH_done (by kernel_rfl) ?_ _
      go_wp2
      go_ret
      exact ⟨by simp, kW.trans0 hS2⟩

theorem fnRankSelect_c (L : Int) (v : Value) (zs : List Int) (w : World) (hv : IntsZ w v zs) (hlen : zs.length ≤ 9223372036854775807) (hL : -9223372036854775808 ≤ L) (hL2 : L ≤ 9223372036854775807) :
    Calls Try.prog 7 #[.agg #[.int .i64 L, v]] w fun e w' => e = .returned (.bool true) ∧ Kept [] w w' := by
  by_cases hg : Good L zs
  · have hg0 := hg
    have hg1 := hg
    obtain ⟨Ln, on, rfl, q1, q2, q3, q4⟩ := hv.good hg1
    exact fnRankSelect_good Ln v on w q4 q1 q2 q3
  · exact fnRankSelect_bad L v zs w hv hlen hL hL2 hg

open Go.ChangeShapes Go.WideShapes Go.ChangeAt Go.Joins

set_option maxRecDepth 100000 in
theorem fnRankSelect_lifted (os : Os) (started : os.Started) (H : Type) (enc : TypeId × Value → H) :
    ReturnsInHanded {} Try.checked os 7 .any (Rows.fnRankSelectSpec.pre6 enc Try.prog Try.f7 Rows.fnRankSelectRow.domain false) (Rows.fnRankSelectSpec.post enc Try.prog Try.f7 false true false false) := by
  refine returnsInHanded_of_change (C := Try.checked) Try.own started (by kernel_rfl) Try.func7
    (ChangeSpec.witness6 (enc := enc) (C := Try.checked) false ⟨#[], #[.agg #[.int .i64 0, .slice none 0 0]], []⟩ 8 (by kernel_rfl) (by kernel_rfl) (by kernel_rfl) (by kernel_rfl)) ?_
  intro W base args ds gs before hval0 hW _ _
  have hval : ∀ (j : Nat) t v, Try.f7.params[j]? = some t → args[j]? = some v → Value.okWide Try.prog W .any base t v := hval0
  have hW' := hW
  obtain ⟨p0, q, hA0, hV, rfl, _, _⟩ := hW
  have hA : DataW.TrodAll enc Try.prog W 0 (fun _ => true) true Try.f7.params.toList args.toList ds p0 := hA0
  rw [Try.params7] at hA hval
  obtain ⟨v0, d0, rfl, rfl, h0⟩ := trodAll_one hA
  obtain ⟨rfl, rfl⟩ := trodVars_none hV
  obtain ⟨L0, s0, zs0, rfl, hz0, hlen0, hL0, hR0⟩ := bits_read (hval 0 24 v0 rfl rfl) h0
  clear hA0 hval0
  simp only [List.append_nil] at hW'
  have hlt0 : ∀ x ∈ p0, x.block < W.heap.size := fun x hx => by simpa using hW'.lt x hx
  refine (fnRankSelect_c L0 s0 zs0 W hz0 hlen0 hL0 hR0).mono fun e W' ⟨he, hk⟩ => ?_
  subst he
  have hb := hk.below
  refine ⟨_, rfl, _, _, _, [], p0, [], hW', ?_, ?_, rfl, hb.frame _, fun h => by cases h⟩
  · exact trodAll_mk1 (shut_bool Try.underlying4 true)
  · exact trodAll_mk1 (Below.trod Try.laidOut (by kernel_rfl) (of_decide_eq_true (by kernel_rfl)) h0 hb hlt0)

theorem fnRankSelect_holds : Rows.FnRankSelectSaid :=
  OpenClaim.holds_of_wide 7 Try.f7 rfl rfl rfl rfl rfl rfl rfl ⟨rfl, rfl, rfl, rfl, rfl⟩ rfl rfl rfl rfl rfl (by kernel_rfl) Try.func7 (by kernel_rfl)
    (of_decide_eq_true (by kernel_rfl)) (by unfold Func.isWrapper; first | (rw [if_pos (by decide +kernel)]; kernel_rfl) | (rw [if_neg (by decide +kernel)]; exact ⟨rfl, rfl⟩))
    (fun os started H enc _ => fnRankSelect_lifted os started H enc)

end Go.Proofs.Ytpkojfcenhieeaa

/-
  laws.FnWordAt: for every input.
-/
import Derived.Test.YtfkgljohmgeocaaWordM
import Derived.Test.YtfkgljohmgeocaaLeast
import Derived.Test.YtfkgljohmgeocaaRow
namespace Go.Proofs.Ytfkgljohmgeocaa
set_option linter.unusedSimpArgs false
set_option linter.unusedVariables false
open Go.RowKit

set_option maxHeartbeats 1000000 in
theorem implWordAt_c (L i : Nat) (v : Value) (on : List Nat) (w : World) (hv : IntsAt w v on) (hL : L ≤ 9000) (hlen : on.length ≤ 1000000) (hon : ∀ x ∈ on, x < 9000) (hin : i < lenOf L on) :
    Calls Try.prog 28 #[.agg #[.int .i64 L, v], .int .i64 i] w fun e w' => ∃ W : Nat, e = .returned (.int .u64 W) ∧ Kept [] w w' ∧ W < 2 ^ 64 ∧ ∀ t, t < 64 → W.testBit t = (decide (i + t < lenOf L on) && memOf on (i + t)) := by
  have k0 : Kept [] w (w.alloc (.cells #[.int .i64 L, v] 27)) := (Kept.refl _ _).alloc _
  have hln := lenOf_le L on 9000 hL hon
  have hi9 : i ≤ 9000 := by omega
  go_enter Try.func28, Try.ntmps28
  go_wp2_with fail
  refine (build_c L v on _ (hv.kept k0) (by omega) (fun x hx => by have := hon x hx; omega) hlen).mono ?_
  rintro e w1 ⟨b, g, rfl, hb, n1, n2, k1⟩
  go_wp2_with fail
  refine (wordAt_c b g _ i _ w1 hb (by omega) hin).mono ?_
  rintro e w2 ⟨W, rfl, k2, hW, hbits⟩
  have HB := Lib.hid hbits; clear hbits
  go_wp2_with fail
  go_ret
  exact ⟨W, rfl, (k0.trans0 k1).trans0 k2, hW, HB.out⟩

set_option maxHeartbeats 1000000 in
set_option linter.unusedVariables false in
theorem fnWordAt_bad (L : Int) (i : Int) (v : Value) (zs : List Int) (w : World) (hv : IntsZ w v zs) (hlen : zs.length ≤ 9223372036854775807) (hL : -9223372036854775808 ≤ L) (hL2 : L ≤ 9223372036854775807) (hb : ¬ (Good L zs ∧ 0 ≤ i ∧ i ≤ 2500)) :
    Calls Try.prog 8 #[.agg #[.int .i64 L, v], .int .i64 i] w fun e w' => e = .returned (.bool true) ∧ Kept [] w w' := by
  have k0 : Kept [] w (w.alloc (.cells #[.int .i64 L, v] 27)) := (Kept.refl _ _).alloc _
  have g0 : (w.alloc (.cells #[.int .i64 L, v] 27)).heap[w.heap.size]? = some (.cells #[.int .i64 L, v] 27 (0, 0)) := heap_alloc_new w _
  obtain ⟨ad, m, cap, rfl⟩ : ∃ ad m cap, v = .slice ad m cap := by
    rcases hv with ⟨ad, cap, h3, h4⟩ | ⟨b, off, cap, h3, _, _⟩ <;> exact ⟨_, _, _, h3⟩
  by_cases hm : m ≤ 2147483647
  · have hd : decide (m ≤ 2147483647) = true := by simpa using hm
    by_cases hg : Good L zs
    · obtain ⟨Ln, on, rfl, q1, q2, q3, q4⟩ := hv.good hg
      have hi : ¬ (0 ≤ i ∧ i ≤ 2500) := fun h => hb ⟨hg, h⟩
      have hdi : (decide (0 ≤ i) && decide (i ≤ 2500)) = false := by simp; omega
      clear hb hg
      go_enter Try.func8, Try.ntmps8
      go_wp2_with fail
      refine (zz_c Ln ad m cap _).mono ?_
      rintro e w1 ⟨rfl, k1⟩
      have c0 : w1.cell? ⟨w.heap.size, 0, none⟩ = some (.int .i64 Ln) := (cell_of_heap (k1.heap (by simp) g0)).trans rfl
      have c1 : w1.cell? ⟨w.heap.size, 1, none⟩ = some (.slice ad m cap) := (cell_of_heap (k1.heap (by simp) g0)).trans rfl
      rw [hd]
      go_wp2_with fail
      refine (setGood_c Ln _ on _ (q4.kept (k0.trans0 k1)) q1 q2 q3).mono ?_
      rintro e w2 ⟨s, rfl, hs, k2⟩
      obtain ⟨b, c, rfl⟩ := hs.shape
      go_wp2_with fail
      refine (fits_c i _).mono ?_
      rintro e w3 ⟨rfl, rfl⟩
      rw [hdi]
      go_wp2_with fail
      go_ret
      exact ⟨rfl, (((k0.trans0 k1).trans0 k2).alloc _)⟩
    · clear hb
      go_enter Try.func8, Try.ntmps8
      go_wp2_with fail
      refine (zz_c L ad m cap _).mono ?_
      rintro e w1 ⟨rfl, k1⟩
      have c0 : w1.cell? ⟨w.heap.size, 0, none⟩ = some (.int .i64 L) := (cell_of_heap (k1.heap (by simp) g0)).trans rfl
      have c1 : w1.cell? ⟨w.heap.size, 1, none⟩ = some (.slice ad m cap) := (cell_of_heap (k1.heap (by simp) g0)).trans rfl
      rw [hd]
      go_wp2_with fail
      refine (setBad_c L _ zs _ (hv.kept (k0.trans0 k1)) hg hlen hL hL2).mono ?_
      rintro e w2 ⟨rfl, k2⟩
      go_wp2_with fail
      go_ret
      exact ⟨rfl, (((k0.trans0 k1).trans0 k2).alloc _)⟩
  · have hd : decide (m ≤ 2147483647) = false := by simpa using hm
    clear hb
    go_enter Try.func8, Try.ntmps8
    go_wp2_with fail
    refine (zz_c L ad m cap _).mono ?_
    rintro e w1 ⟨rfl, k1⟩
    rw [hd]
    go_wp2_with fail
    go_ret
    exact ⟨rfl, k0.trans0 k1⟩

set_option maxHeartbeats 2000000 in
set_option linter.unusedVariables false in
theorem fnWordAt_good (L : Nat) (i : Nat) (v : Value) (on : List Nat) (w : World) (hv : IntsAt w v on) (hL : L ≤ 2000) (hlen : on.length ≤ 400) (hon : ∀ x ∈ on, x < 2500) (hi : i ≤ 2500) (hin : i < lenOf L on) :
    Calls Try.prog 8 #[.agg #[.int .i64 L, v], .int .i64 i] w fun e w' => e = .returned (.bool true) ∧ Kept [] w w' := by
  have k0 : Kept [] w (w.alloc (.cells #[.int .i64 L, v] 27)) := (Kept.refl _ _).alloc _
  have g0 : (w.alloc (.cells #[.int .i64 L, v] 27)).heap[w.heap.size]? = some (.cells #[.int .i64 L, v] 27 (0, 0)) := heap_alloc_new w _
  obtain ⟨ad, cap, rfl⟩ := hv.shape
  have hd : decide (on.length ≤ 2147483647) = true := by simp; omega
  have hdi : (decide ((0 : Int) ≤ i) && decide ((i : Int) ≤ 2500)) = true := by simp; omega
  have hln := lenOf_le L on 2500 (by omega) hon
  go_enter Try.func8, Try.ntmps8
  go_wp2_with fail
  refine (zz_c L ad on.length cap _).mono ?_
  rintro e w1 ⟨rfl, k1⟩
  have h1 := k1.heap (by simp) g0
  have c0 : w1.cell? ⟨w.heap.size, 0, none⟩ = some (.int .i64 L) := (cell_of_heap h1).trans rfl
  have c1 : w1.cell? ⟨w.heap.size, 1, none⟩ = some (.slice ad on.length cap) := (cell_of_heap h1).trans rfl
  rw [hd]
  go_wp2_with fail
  refine (setGood_c L _ on _ (hv.kept (k0.trans0 k1)) hL hlen hon).mono ?_
  rintro e w2 ⟨s, rfl, hs, k2⟩
  obtain ⟨b, c, rfl⟩ := hs.shape
  have hlt2 := lt_of_heap (k2.heap (by simp) h1)
  clear c0 c1
  go_wp2_with fail
  refine (fits_c i _).mono ?_
  rintro e w3 ⟨rfl, rfl⟩
  rw [hdi]
  have hin2 : ¬ ((lenOf L on : Nat) : Int) ≤ (i : Int) := by omega
  have h2a := k2.heap (by simp) h1
  have d0 : w2.cell? ⟨w.heap.size, 0, none⟩ = some (.int .i64 L) := (cell_of_heap h2a).trans rfl
  have d1 : w2.cell? ⟨w.heap.size, 1, none⟩ = some (.slice ad on.length cap) := (cell_of_heap h2a).trans rfl
  go_wp2_with fail
  have hs5 := hs.kept ((Kept.refl _ _).alloc (.cells #[.slice (some ⟨b, 0, none⟩) (lenOf L on) c, .bool true] 31))
  have k3 : Kept [] w2 (w2.alloc (.cells #[.slice (some ⟨b, 0, none⟩) (lenOf L on) c, .bool true] 31)) := (Kept.refl _ _).alloc _
  have gA := k3.heap (by simp) (k2.heap (by simp) h1)
  have gB := heap_alloc_new w2 (.cells #[.slice (some ⟨b, 0, none⟩) (lenOf L on) c, .bool true] 31)
  have hv5 := hv.kept (((k0.trans0 k1).trans0 k2).trans0 k3)
  have kW := ((k0.trans0 k1).trans0 k2).trans0 k3
  clear k3 hs k1 k2 h1 g0 k0 d0 d1 h2a
  obtain ⟨N, hN⟩ : ∃ N, lenOf L on = N := ⟨_, rfl⟩
  (try rw [hN] at hs5); (try rw [hN] at gB); (try rw [hN] at gA); (try rw [hN] at hln); (try rw [hN] at kW); (try rw [hN] at hv5)
  rw [hN]
  have HN := Lib.hid hN; clear hN
  generalize (w2.alloc (.cells #[.slice (some ⟨b, 0, none⟩) N c, .bool true] 31)) = W at *
  have A0 : ∀ w', Kept [] W w' → w'.cell? ⟨w.heap.size, 0, none⟩ = some (.int .i64 L) := fun w' k => (cell_of_heap (k.heap (by simp) gA)).trans rfl
  have A1 : ∀ w', Kept [] W w' → w'.cell? ⟨w.heap.size, 1, none⟩ = some (.slice ad on.length cap) := fun w' k => (cell_of_heap (k.heap (by simp) gA)).trans rfl
  have B0 : ∀ w', Kept [] W w' → w'.cell? ⟨w2.heap.size, 0, none⟩ = some (.slice (some ⟨b, 0, none⟩) N c) := fun w' k => (cell_of_heap (k.heap (by simp) gB)).trans rfl
  have B1 : ∀ w', Kept [] W w' → w'.cell? ⟨w2.heap.size, 1, none⟩ = some (.bool true) := fun w' k => (cell_of_heap (k.heap (by simp) gB)).trans rfl
  go_loopw [31, 7] (fun v u wr => ∃ k V : Nat, k ≤ 64 ∧ v = .int .i64 k ∧ u = .int .u64 V ∧ Hid (V < 2 ^ 64 ∧ ∀ t, t < 64 → V.testBit t = (decide (t < k) && (decide (i + t < N) && memOf on (i + t)))) ∧ Kept [] W wr) (fun v _ _ => 64 - (intOf v).toNat)
  case atStart => exact ⟨0, 0, by omega, rfl, rfl, (show 0 < 2 ^ 64 ∧ ∀ t, t < 64 → Nat.testBit 0 t = _ from ⟨by decide, fun t _ => by simp⟩), Kept.refl _ _⟩
  case round =>
    obtain ⟨k, V, hk, rfl, rfl, hV, kr⟩ := hrel
    have hVl := hV.out.1
    by_cases hk6 : k < 64
    · have B0' := B0 wr kr; have B1' := B1 wr kr
      have hfa : fAt N (memOf on) ((i : Int) + (k : Int)) = (decide (i + k < N) && memOf on (i + k)) := by
        unfold fAt
        rw [show decide ((0 : Int) ≤ (i : Int) + (k : Int)) = true by simp; omega, show ((i : Int) + (k : Int)).toNat = i + k by omega]
        by_cases h : i + k < N
        · rw [decide_eq_true h, show decide ((i : Int) + (k : Int) < (N : Int)) = true by simp; omega]; rfl
        · rw [decide_eq_false h, show decide ((i : Int) + (k : Int) < (N : Int)) = false by simp; omega]; rfl
      cases hF : (decide (i + k < N) && memOf on (i + k)) with
      | true =>
        rw [hF] at hfa
        have hor := or_word V k hVl hk6
        have hV2 : V ||| 2 ^ k < 2 ^ 64 ∧ ∀ t, t < 64 → (V ||| 2 ^ k).testBit t = (decide (t < k + 1) && (decide (i + t < N) && memOf on (i + t))) := ⟨Nat.or_lt_two_pow hVl (pow_lt k hk6), fun t ht => by
          rw [Nat.testBit_or, hV.out.2 t ht, Nat.testBit_two_pow]
          rcases Nat.lt_trichotomy t k with h | h | h
          · rw [decide_eq_true h, decide_eq_true (show t < k + 1 by omega), decide_eq_false (show ¬ k = t by omega)]; simp
          · subst h; rw [hF]; simp
          · rw [decide_eq_false (show ¬ t < k by omega), decide_eq_false (show ¬ t < k + 1 by omega), decide_eq_false (show ¬ k = t by omega)]; simp⟩
        have HF := Lib.hid hfa; have HO := Lib.hid hor; have HV2 := Lib.hid hV2; clear hfa hor hV2 hF
        go_wp2_with fail
        refine (at_c _ N (memOf on) true ((i : Int) + (k : Int)) _ (hs5.kept kr)).mono ?_
        rintro e w7 ⟨rfl, k7⟩
        rw [HF.out]
        go_wp2_with fail
        rw [HO.out]
        go_roundw
        case rel => exact ⟨k + 1, _, by omega, by go_num, rfl, HV2, kr.trans0 k7⟩
        case measure => simp [intOf] <;> omega
      | false =>
        rw [hF] at hfa
        have hV2 : V < 2 ^ 64 ∧ ∀ t, t < 64 → V.testBit t = (decide (t < k + 1) && (decide (i + t < N) && memOf on (i + t))) := ⟨hVl, fun t ht => by
          rw [hV.out.2 t ht]
          rcases Nat.lt_trichotomy t k with h | h | h
          · rw [decide_eq_true h, decide_eq_true (show t < k + 1 by omega)]
          · subst h; rw [hF]; simp
          · rw [decide_eq_false (show ¬ t < k by omega), decide_eq_false (show ¬ t < k + 1 by omega)]⟩
        have HF := Lib.hid hfa; have HV2 := Lib.hid hV2; clear hfa hV2 hF
        go_wp2_with fail
        refine (at_c _ N (memOf on) true ((i : Int) + (k : Int)) _ (hs5.kept kr)).mono ?_
        rintro e w7 ⟨rfl, k7⟩
        rw [HF.out]
        go_wp2_with fail
        go_roundw
        case rel => exact ⟨k + 1, V, by omega, by go_num, rfl, HV2, kr.trans0 k7⟩
        case measure => simp [intOf] <;> omega
    · obtain rfl : k = 64 := by omega
      have A0' := A0 wr kr; have A1' := A1 wr kr
      go_wp2_with fail
      refine (implWordAt_c L i _ on _ (hv5.kept kr) (by have := HN.out; omega) (by omega) (fun x hx => by have := hon x hx; omega) (by have := HN.out; omega)).mono ?_
      rintro e w9 ⟨W9, rfl, k9, hW9, hb9⟩
      obtain rfl : W9 = V := Nat.eq_of_testBit_eq fun t => by
        by_cases ht : t < 64
        · rw [hb9 t ht, hV.out.2 t ht, decide_eq_true ht, HN.out]; rfl
        · rw [testBit_big hW9 (by omega), testBit_big hVl (by omega)]
      clear hb9
      go_wp2_with fail
      go_ret
      exact ⟨by simp, (kW.trans0 kr).trans0 k9⟩

set_option maxHeartbeats 2000000 in
set_option linter.unusedVariables false in
theorem fnWordAt_un (L : Nat) (i : Nat) (v : Value) (on : List Nat) (w : World) (hv : IntsAt w v on) (hL : L ≤ 2000) (hlen : on.length ≤ 400) (hon : ∀ x ∈ on, x < 2500) (hi : i ≤ 2500) (hin : lenOf L on ≤ i) :
    Calls Try.prog 8 #[.agg #[.int .i64 L, v], .int .i64 i] w fun e w' => e = .returned (.bool true) ∧ Kept [] w w' := by
  have k0 : Kept [] w (w.alloc (.cells #[.int .i64 L, v] 27)) := (Kept.refl _ _).alloc _
  have g0 : (w.alloc (.cells #[.int .i64 L, v] 27)).heap[w.heap.size]? = some (.cells #[.int .i64 L, v] 27 (0, 0)) := heap_alloc_new w _
  obtain ⟨ad, cap, rfl⟩ := hv.shape
  have hd : decide (on.length ≤ 2147483647) = true := by simp; omega
  have hdi : (decide ((0 : Int) ≤ i) && decide ((i : Int) ≤ 2500)) = true := by simp; omega
  have hln := lenOf_le L on 2500 (by omega) hon
  go_enter Try.func8, Try.ntmps8
  go_wp2_with fail
  refine (zz_c L ad on.length cap _).mono ?_
  rintro e w1 ⟨rfl, k1⟩
  have h1 := k1.heap (by simp) g0
  have c0 : w1.cell? ⟨w.heap.size, 0, none⟩ = some (.int .i64 L) := (cell_of_heap h1).trans rfl
  have c1 : w1.cell? ⟨w.heap.size, 1, none⟩ = some (.slice ad on.length cap) := (cell_of_heap h1).trans rfl
  rw [hd]
  go_wp2_with fail
  refine (setGood_c L _ on _ (hv.kept (k0.trans0 k1)) hL hlen hon).mono ?_
  rintro e w2 ⟨s, rfl, hs, k2⟩
  obtain ⟨b, c, rfl⟩ := hs.shape
  have hlt2 := lt_of_heap (k2.heap (by simp) h1)
  clear c0 c1
  go_wp2_with fail
  refine (fits_c i _).mono ?_
  rintro e w3 ⟨rfl, rfl⟩
  rw [hdi]
  have hin2 : ((lenOf L on : Nat) : Int) ≤ (i : Int) := by omega
  go_wp2_with fail
  go_ret
  exact ⟨rfl, ((k0.trans0 k1).trans0 k2).alloc _⟩

theorem fnWordAt_c (L : Int) (i : Int) (v : Value) (zs : List Int) (w : World) (hv : IntsZ w v zs) (hlen : zs.length ≤ 9223372036854775807) (hL : -9223372036854775808 ≤ L) (hL2 : L ≤ 9223372036854775807) :
    Calls Try.prog 8 #[.agg #[.int .i64 L, v], .int .i64 i] w fun e w' => e = .returned (.bool true) ∧ Kept [] w w' := by
  by_cases hg : Good L zs ∧ 0 ≤ i ∧ i ≤ 2500
  · have hg0 := hg
    obtain ⟨hg1, pi, ri⟩ := hg
    obtain ⟨Ln, on, rfl, q1, q2, q3, q4⟩ := hv.good hg1
    obtain ⟨i, rfl⟩ := Int.eq_ofNat_of_zero_le pi
    by_cases hin : i < lenOf Ln on
    · exact fnWordAt_good Ln i v on w q4 q1 q2 q3 (by omega) hin
    · exact fnWordAt_un Ln i v on w q4 q1 q2 q3 (by omega) (by omega)
  · exact fnWordAt_bad L i v zs w hv hlen hL hL2 hg

open Go.ChangeShapes Go.WideShapes Go.ChangeAt Go.Joins

set_option maxRecDepth 100000 in
theorem fnWordAt_lifted (os : Os) (started : os.Started) (H : Type) (enc : TypeId × Value → H) :
    ReturnsInHanded {} Try.checked os 8 .any (Rows.fnWordAtSpec.pre6 enc Try.prog Try.f8 Rows.fnWordAtRow.domain false) (Rows.fnWordAtSpec.post enc Try.prog Try.f8 false true false false) := by
  refine returnsInHanded_of_change (C := Try.checked) Try.own started (by kernel_rfl) Try.func8
    (ChangeSpec.witness6 (enc := enc) (C := Try.checked) false ⟨#[], #[.agg #[.int .i64 0, .slice none 0 0], .int .i64 0], []⟩ 8 (by kernel_rfl) (by kernel_rfl) (by kernel_rfl) (by kernel_rfl)) ?_
  intro W base args ds gs before hval0 hW _ _
  have hval : ∀ (j : Nat) t v, Try.f8.params[j]? = some t → args[j]? = some v → Value.okWide Try.prog W .any base t v := hval0
  have hW' := hW
  obtain ⟨p, q, hA0, hV, rfl, _, _⟩ := hW
  have hA : DataW.TrodAll enc Try.prog W 0 (fun _ => true) true Try.f8.params.toList args.toList ds p := hA0
  rw [Try.params8] at hA hval
  obtain ⟨v0, v1, d0, d1, p0, p1, rfl, rfl, rfl, h0, h1⟩ := trodAll_two hA
  obtain ⟨rfl, rfl⟩ := trodVars_none hV
  obtain ⟨i, rfl, rfl, rfl, wi1⟩ := open_int Try.underlying3 (hval 1 3 v1 rfl rfl) h1
  obtain ⟨L0, s0, zs0, rfl, hz0, hlen0, hL0, hR0⟩ := bits_read (hval 0 27 v0 rfl rfl) h0
  clear hA0 hval0
  simp only [List.append_nil] at hW'
  have hlt0 : ∀ x ∈ p0, x.block < W.heap.size := fun x hx => by simpa using hW'.lt x hx
  refine (fnWordAt_c L0 i s0 zs0 W hz0 hlen0 hL0 hR0).mono fun e W' ⟨he, hk⟩ => ?_
  subst he
  have hb := hk.below
  refine ⟨_, rfl, _, _, _, [], p0 ++ [], [], hW', ?_, ?_, rfl, hb.frame _, fun h => by cases h⟩
  · exact trodAll_mk1 (shut_bool Try.underlying4 true)
  · exact trodAll_mk2 (Below.trod Try.laidOut (by kernel_rfl) (of_decide_eq_true (by kernel_rfl)) h0 hb hlt0) (shut_int Try.underlying3 wi1)

theorem fnWordAt_holds : Rows.FnWordAtSaid :=
  OpenClaim.holds_of_wide 8 Try.f8 rfl rfl rfl rfl rfl rfl rfl ⟨rfl, rfl, rfl, rfl, rfl⟩ rfl rfl rfl rfl rfl (by kernel_rfl) Try.func8 (by kernel_rfl)
    (of_decide_eq_true (by kernel_rfl)) (by unfold Func.isWrapper; first | (rw [if_pos (by decide +kernel)]; kernel_rfl) | (rw [if_neg (by decide +kernel)]; exact ⟨rfl, rfl⟩))
    (fun os started H enc _ => fnWordAt_lifted os started H enc)

end Go.Proofs.Ytfkgljohmgeocaa

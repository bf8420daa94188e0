/-
  laws.FnNextClear: for every input; the table of TrailingZeros64 is laid, tied to the program's text.
-/
import Derived.SevenTiedAt
import Derived.Test.YtafbdkcbgjpolaaDoorINextClear
import Derived.Test.YtafbdkcbgjpolaaDoorLaid
import Derived.Test.YtafbdkcbgjpolaaDoorAlike
namespace Go.Proofs.YtafbdkcbgjpolaaDoor
set_option linter.unusedSimpArgs false
set_option linter.unusedVariables false
set_option maxRecDepth 100000
open Go.RowKit

set_option maxHeartbeats 1000000 in
set_option linter.unusedVariables false in
theorem fnNextClear_bad (L : Int) (i : Int) (v : Value) (zs : List Int) (w : World) (hv : IntsZ w v zs) (hlen : zs.length ≤ 9223372036854775807) (hL : -9223372036854775808 ≤ L) (hL2 : L ≤ 9223372036854775807) (hb : ¬ (Good L zs ∧ 0 ≤ i ∧ i ≤ 2500)) :
    Calls Tryd.prog 4 #[.agg #[.int .i64 L, v], .int .i64 i] w fun e w' => e = .returned (.bool true) ∧ Kept [] w w' := by
  have k0 : Kept [] w (w.alloc (.cells #[.int .i64 L, v] 24)) := (Kept.refl _ _).alloc _
  have g0 : (w.alloc (.cells #[.int .i64 L, v] 24)).heap[w.heap.size]? = some (.cells #[.int .i64 L, v] 24 (0, 0)) := heap_alloc_new w _
  obtain ⟨ad, m, cap, rfl⟩ : ∃ ad m cap, v = .slice ad m cap := by
    rcases hv with ⟨ad, cap, h3, h4⟩ | ⟨b, off, cap, h3, _, _⟩ <;> exact ⟨_, _, _, h3⟩
  by_cases hm : m ≤ 2147483647
  · have hd : decide (m ≤ 2147483647) = true := by simpa using hm
    by_cases hg : Good L zs
    · obtain ⟨Ln, on, rfl, q1, q2, q3, q4⟩ := hv.good hg
      have hi : ¬ (0 ≤ i ∧ i ≤ 2500) := fun h => hb ⟨hg, h⟩
      have hdi : (decide (0 ≤ i) && decide (i ≤ 2500)) = false := by simp; omega
      clear hb hg
      go_enter Tryd.func4, Tryd.ntmps4
      go_wp2_with fail
      refine (zz_c Ln ad m cap _).mono ?_
      rintro e w1 ⟨rfl, k1⟩
      have c0 : w1.cell? ⟨w.heap.size, 0, none⟩ = some (.int .i64 Ln) := (cell_of_heap (k1.heap (by simp) g0)).trans rfl
      have c1 : w1.cell? ⟨w.heap.size, 1, none⟩ = some (.slice ad m cap) := (cell_of_heap (k1.heap (by simp) g0)).trans rfl
      rw [hd]
      go_wp2_with fail
      refine (setGood_c Ln _ on _ (q4.kept (k0.trans0 k1)) q1 q2 q3).mono ?_
      rintro e w2 ⟨s, rfl, hs, k2⟩
      obtain ⟨b, c, rfl⟩ := hs.shape
      go_wp2_with fail
      refine (fits_c i _).mono ?_
      rintro e w3 ⟨rfl, rfl⟩
      rw [hdi]
      go_wp2_with fail
      go_ret
      exact ⟨rfl, (((k0.trans0 k1).trans0 k2).alloc _)⟩
    · clear hb
      go_enter Tryd.func4, Tryd.ntmps4
      go_wp2_with fail
      refine (zz_c L ad m cap _).mono ?_
      rintro e w1 ⟨rfl, k1⟩
      have c0 : w1.cell? ⟨w.heap.size, 0, none⟩ = some (.int .i64 L) := (cell_of_heap (k1.heap (by simp) g0)).trans rfl
      have c1 : w1.cell? ⟨w.heap.size, 1, none⟩ = some (.slice ad m cap) := (cell_of_heap (k1.heap (by simp) g0)).trans rfl
      rw [hd]
      go_wp2_with fail
      refine (setBad_c L _ zs _ (hv.kept (k0.trans0 k1)) hg hlen hL hL2).mono ?_
      rintro e w2 ⟨rfl, k2⟩
      go_wp2_with fail
      go_ret
      exact ⟨rfl, (((k0.trans0 k1).trans0 k2).alloc _)⟩
  · have hd : decide (m ≤ 2147483647) = false := by simpa using hm
    clear hb
    go_enter Tryd.func4, Tryd.ntmps4
    go_wp2_with fail
    refine (zz_c L ad m cap _).mono ?_
    rintro e w1 ⟨rfl, k1⟩
    rw [hd]
    go_wp2_with fail
    go_ret
    exact ⟨rfl, k0.trans0 k1⟩

set_option maxHeartbeats 2000000 in
set_option linter.unusedVariables false in
theorem fnNextClear_good (L : Nat) (i : Nat) (v : Value) (on : List Nat) (w : World) (hv : IntsAt w v on) (hL : L ≤ 2000) (hlen : on.length ≤ 400) (hon : ∀ x ∈ on, x < 2500) (hi : i ≤ 2500) (hT : TabW w) (hin : i < lenOf L on) :
    Calls Tryd.prog 4 #[.agg #[.int .i64 L, v], .int .i64 i] w fun e w' => e = .returned (.bool true) ∧ Kept [] w w' := by
  have k0 : Kept [] w (w.alloc (.cells #[.int .i64 L, v] 24)) := (Kept.refl _ _).alloc _
  have g0 : (w.alloc (.cells #[.int .i64 L, v] 24)).heap[w.heap.size]? = some (.cells #[.int .i64 L, v] 24 (0, 0)) := heap_alloc_new w _
  obtain ⟨ad, cap, rfl⟩ := hv.shape
  have hd : decide (on.length ≤ 2147483647) = true := by simp; omega
  have hdi : (decide ((0 : Int) ≤ i) && decide ((i : Int) ≤ 2500)) = true := by simp; omega
  have hln := lenOf_le L on 2500 (by omega) hon
  go_enter Tryd.func4, Tryd.ntmps4
  go_wp2_with fail
  refine (zz_c L ad on.length cap _).mono ?_
  rintro e w1 ⟨rfl, k1⟩
  have h1 := k1.heap (by simp) g0
  have c0 : w1.cell? ⟨w.heap.size, 0, none⟩ = some (.int .i64 L) := (cell_of_heap h1).trans rfl
  have c1 : w1.cell? ⟨w.heap.size, 1, none⟩ = some (.slice ad on.length cap) := (cell_of_heap h1).trans rfl
  rw [hd]
  go_wp2_with fail
  refine (setGood_c L _ on _ (hv.kept (k0.trans0 k1)) hL hlen hon).mono ?_
  rintro e w2 ⟨s, rfl, hs, k2⟩
  obtain ⟨b, c, rfl⟩ := hs.shape
  have hlt2 := lt_of_heap (k2.heap (by simp) h1)
  clear c0 c1
  go_wp2_with fail
  refine (fits_c i _).mono ?_
  rintro e w3 ⟨rfl, rfl⟩
  rw [hdi]
  have hin2 : ¬ ((lenOf L on : Nat) : Int) ≤ (i : Int) := by omega
  have h2a := k2.heap (by simp) h1
  have d0 : w2.cell? ⟨w.heap.size, 0, none⟩ = some (.int .i64 L) := (cell_of_heap h2a).trans rfl
  have d1 : w2.cell? ⟨w.heap.size, 1, none⟩ = some (.slice ad on.length cap) := (cell_of_heap h2a).trans rfl
  go_wp2_with fail
  have hs5 := hs.kept ((Kept.refl _ _).alloc (.cells #[.slice (some ⟨b, 0, none⟩) (lenOf L on) c, .bool true] 28))
  have k3 : Kept [] w2 (w2.alloc (.cells #[.slice (some ⟨b, 0, none⟩) (lenOf L on) c, .bool true] 28)) := (Kept.refl _ _).alloc _
  have gA := k3.heap (by simp) (k2.heap (by simp) h1)
  have gB := heap_alloc_new w2 (.cells #[.slice (some ⟨b, 0, none⟩) (lenOf L on) c, .bool true] 28)
  have hv5 := hv.kept (((k0.trans0 k1).trans0 k2).trans0 k3)
  have kW := ((k0.trans0 k1).trans0 k2).trans0 k3
  clear k3 hs k1 k2 h1 g0 k0 d0 d1 h2a
  obtain ⟨N, hN⟩ : ∃ N, lenOf L on = N := ⟨_, rfl⟩
  (try rw [hN] at hs5); (try rw [hN] at gB); (try rw [hN] at gA); (try rw [hN] at hln); (try rw [hN] at kW); (try rw [hN] at hv5)
  rw [hN]
  have HN := Lib.hid hN; clear hN
  generalize (w2.alloc (.cells #[.slice (some ⟨b, 0, none⟩) N c, .bool true] 28)) = W at *
  have A0 : ∀ w', Kept [] W w' → w'.cell? ⟨w.heap.size, 0, none⟩ = some (.int .i64 L) := fun w' k => (cell_of_heap (k.heap (by simp) gA)).trans rfl
  have A1 : ∀ w', Kept [] W w' → w'.cell? ⟨w.heap.size, 1, none⟩ = some (.slice ad on.length cap) := fun w' k => (cell_of_heap (k.heap (by simp) gA)).trans rfl
  have B0 : ∀ w', Kept [] W w' → w'.cell? ⟨w2.heap.size, 0, none⟩ = some (.slice (some ⟨b, 0, none⟩) N c) := fun w' k => (cell_of_heap (k.heap (by simp) gB)).trans rfl
  have B1 : ∀ w', Kept [] W w' → w'.cell? ⟨w2.heap.size, 1, none⟩ = some (.bool true) := fun w' k => (cell_of_heap (k.heap (by simp) gB)).trans rfl
  have hTW := hT.kept0 kW
  go_loopw [7] (fun v wr => ∃ y : Nat, i ≤ y ∧ y ≤ N ∧ v = .int .i64 y ∧ NoneIn N (fun j => !memOf on j) i y ∧ Kept [] W wr) (fun v _ => N - (intOf v).toNat)
  case atStart => exact ⟨i, Nat.le_refl _, by have := HN.out; omega, rfl, fun j h1 h2 _ => absurd h1 (by omega), Kept.refl _ _⟩
  case round =>
    obtain ⟨y, hy1, hy2, rfl, hz, kr⟩ := hrel
    by_cases hyN : y < N
    · cases hF : memOf on y with
      | true =>
        have R : NoneIn N (fun j => !memOf on j) i (y + 1) := fun j h1 h2 h3 => by
          rcases Nat.eq_or_lt_of_le (Nat.le_of_lt_succ h2) with h4 | h4
          · subst h4; simp [hF]
          · exact hz j h1 h4 h3
        have A0' := A0 wr kr; have A1' := A1 wr kr; have B0' := B0 wr kr; have B1' := B1 wr kr
        have hat : fAt N (memOf on) ((y : Nat) : Int) = true := by rw [← hF]; simp [fAt, hyN]
        have HAT := Lib.hid hat; clear hat
        have y0 : (0 : Int) ≤ (y : Int) := by omega
        have y1 : (y : Int) < (N : Int) := by omega
        go_wp2_with fail
        refine (at_c _ N (memOf on) true (y : Int) _ (hs5.kept kr)).mono ?_
        rintro e w7 ⟨rfl, k7⟩
        rw [HAT.out]
        go_wp2_with fail
        go_roundw
        case rel => exact ⟨y + 1, by omega, by omega, by go_num, R, kr.trans0 k7⟩
        case measure => simp [intOf] <;> omega
      | false =>
        have A0' := A0 wr kr; have A1' := A1 wr kr; have B0' := B0 wr kr; have B1' := B1 wr kr
        have hat : fAt N (memOf on) ((y : Nat) : Int) = false := by rw [← hF]; simp [fAt, hyN]
        have HAT := Lib.hid hat; clear hat
        have y0 : (0 : Int) ≤ (y : Int) := by omega
        have y1 : (y : Int) < (N : Int) := by omega
        go_wp2_with fail
        refine (at_c _ N (memOf on) true (y : Int) _ (hs5.kept kr)).mono ?_
        rintro e w7 ⟨rfl, k7⟩
        rw [HAT.out]
        clear A0' A1' B0' B1'
        have A0' := A0 w7 (kr.trans0 k7); have A1' := A1 w7 (kr.trans0 k7)
        go_wp2_with fail
        refine (implNextClear_c L i _ on _ (hv5.kept (kr.trans0 k7)) (by omega) (by omega) (fun x hx => by have := hon x hx; omega) (by omega) (by have := HN.out; omega) (hTW.kept0 (kr.trans0 k7))).mono ?_
        rintro e w8 ⟨q, hq1, hq2, hq3, k8⟩
        rw [HN.out] at hq2 hq3
        clear A0' A1'
        have B0' := B0 w8 ((kr.trans0 k7).trans0 k8); have B1' := B1 w8 ((kr.trans0 k7).trans0 k8)
        rcases hq3 with ⟨g1, g2, rfl⟩ | ⟨g1, rfl⟩
        · have e1 : q = y := by
            rcases Nat.lt_trichotomy q y with g3 | g3 | g3
            · have := hz q hq1 g3 g1
              simp [g2] at this
            · exact g3
            · have := hq2 y hy1 g3 hyN
              simp [hF] at this
          rw [e1]
          go_wp2_with fail
          go_ret
          exact ⟨by simp, ((kW.trans0 kr).trans0 k7).trans0 k8⟩
        · exact absurd (hq2 y hy1 (by omega) hyN) (by simp [hF])
    · obtain rfl : y = N := by omega
      have A0' := A0 wr kr; have A1' := A1 wr kr; have B0' := B0 wr kr; have B1' := B1 wr kr
      have y0 : (0 : Int) ≤ (y : Int) := by omega
      go_wp2_with fail
      refine (implNextClear_c L i _ on _ (hv5.kept kr) (by omega) (by omega) (fun x hx => by have := hon x hx; omega) (by omega) (by have := HN.out; omega) (hTW.kept0 kr)).mono ?_
      rintro e w8 ⟨q, hq1, hq2, hq3, k8⟩
      rw [HN.out] at hq2 hq3
      clear A0' A1' B0' B1'
      have B0' := B0 w8 (kr.trans0 k8); have B1' := B1 w8 (kr.trans0 k8)
      rcases hq3 with ⟨g1, g2, rfl⟩ | ⟨g1, rfl⟩
      · exact absurd (hz q hq1 g1 g1) (by simp [g2])
      · go_wp2_with fail
        go_ret
        exact ⟨by simp, (kW.trans0 kr).trans0 k8⟩

set_option maxHeartbeats 2000000 in
set_option linter.unusedVariables false in
theorem fnNextClear_un (L : Nat) (i : Nat) (v : Value) (on : List Nat) (w : World) (hv : IntsAt w v on) (hL : L ≤ 2000) (hlen : on.length ≤ 400) (hon : ∀ x ∈ on, x < 2500) (hi : i ≤ 2500) (hin : lenOf L on ≤ i) :
    Calls Tryd.prog 4 #[.agg #[.int .i64 L, v], .int .i64 i] w fun e w' => e = .returned (.bool true) ∧ Kept [] w w' := by
  have k0 : Kept [] w (w.alloc (.cells #[.int .i64 L, v] 24)) := (Kept.refl _ _).alloc _
  have g0 : (w.alloc (.cells #[.int .i64 L, v] 24)).heap[w.heap.size]? = some (.cells #[.int .i64 L, v] 24 (0, 0)) := heap_alloc_new w _
  obtain ⟨ad, cap, rfl⟩ := hv.shape
  have hd : decide (on.length ≤ 2147483647) = true := by simp; omega
  have hdi : (decide ((0 : Int) ≤ i) && decide ((i : Int) ≤ 2500)) = true := by simp; omega
  have hln := lenOf_le L on 2500 (by omega) hon
  go_enter Tryd.func4, Tryd.ntmps4
  go_wp2_with fail
  refine (zz_c L ad on.length cap _).mono ?_
  rintro e w1 ⟨rfl, k1⟩
  have h1 := k1.heap (by simp) g0
  have c0 : w1.cell? ⟨w.heap.size, 0, none⟩ = some (.int .i64 L) := (cell_of_heap h1).trans rfl
  have c1 : w1.cell? ⟨w.heap.size, 1, none⟩ = some (.slice ad on.length cap) := (cell_of_heap h1).trans rfl
  rw [hd]
  go_wp2_with fail
  refine (setGood_c L _ on _ (hv.kept (k0.trans0 k1)) hL hlen hon).mono ?_
  rintro e w2 ⟨s, rfl, hs, k2⟩
  obtain ⟨b, c, rfl⟩ := hs.shape
  have hlt2 := lt_of_heap (k2.heap (by simp) h1)
  clear c0 c1
  go_wp2_with fail
  refine (fits_c i _).mono ?_
  rintro e w3 ⟨rfl, rfl⟩
  rw [hdi]
  have hin2 : ((lenOf L on : Nat) : Int) ≤ (i : Int) := by omega
  go_wp2_with fail
  go_ret
  exact ⟨rfl, ((k0.trans0 k1).trans0 k2).alloc _⟩

theorem fnNextClear_c (L : Int) (i : Int) (v : Value) (zs : List Int) (w : World) (hv : IntsZ w v zs) (hlen : zs.length ≤ 9223372036854775807) (hL : -9223372036854775808 ≤ L) (hL2 : L ≤ 9223372036854775807) (hT : TabW w) :
    Calls Tryd.prog 4 #[.agg #[.int .i64 L, v], .int .i64 i] w fun e w' => e = .returned (.bool true) ∧ Kept [] w w' := by
  by_cases hg : Good L zs ∧ 0 ≤ i ∧ i ≤ 2500
  · have hg0 := hg
    obtain ⟨hg1, pi, ri⟩ := hg
    obtain ⟨Ln, on, rfl, q1, q2, q3, q4⟩ := hv.good hg1
    obtain ⟨i, rfl⟩ := Int.eq_ofNat_of_zero_le pi
    by_cases hin : i < lenOf Ln on
    · exact fnNextClear_good Ln i v on w q4 q1 q2 q3 (by omega) hT hin
    · exact fnNextClear_un Ln i v on w q4 q1 q2 q3 (by omega) (by omega)
  · exact fnNextClear_bad L i v zs w hv hlen hL hL2 hg

open Go.ChangeShapes Go.WideShapes Go.ChangeAt Go.Joins

set_option maxRecDepth 100000 in
theorem fnNextClear_lifted (os : Os) (started : os.Started) (H : Type) (enc : TypeId × Value → H) :
    ReturnsInHanded {} Tryd.checked os 4 .any (fun w args => (Rows.fnNextClearSpec.pre enc Tryd.prog Tryd.f4 [] false w args ∧ laidMetH Tryd.prog laid1 w) ∧ sizedMet enc Tryd.prog Tryd.f4 (OpenSpec.ofChange Rows.fnNextClearSpec) false w args)
      (Rows.fnNextClearSpec.post enc Tryd.prog Tryd.f4 false true false false) := by
  refine returnsInHanded_of_change_and (C := Tryd.checked) (X := fun w _ => laidMetH Tryd.prog laid1 w) (fun _ _ _ hh h => h.of_heap hh) Tryd.own started (by kernel_rfl) Tryd.func4
    (ChangeSpec.witness_shaped (enc := enc) (C := Tryd.checked) (os := os) (X := fun w _ => laidMetH Tryd.prog laid1 w) false (World.doorLaid Tryd.prog 400 os) #[.agg #[.int .i64 0, .slice none 0 0], .int .i64 0] 8 rfl (World.shaped_of_RefB (by kernel_rfl) (by kernel_rfl)) (by kernel_rfl) (by kernel_rfl) (by kernel_rfl) (door_met os _)) ?_
  intro W base args ds gs before hval0 hW _ _ hL _
  have hval : ∀ (j : Nat) t v, Tryd.f4.params[j]? = some t → args[j]? = some v → Value.okWide Tryd.prog W .any base t v := hval0
  have hW' := hW
  obtain ⟨p, q, hA0, hV, rfl, _, _⟩ := hW
  have hA : DataW.TrodAll enc Tryd.prog W 0 (fun _ => true) true Tryd.f4.params.toList args.toList ds p := hA0
  rw [Tryd.params4] at hA hval
  obtain ⟨v0, v1, d0, d1, p0, p1, rfl, rfl, rfl, h0, h1⟩ := trodAll_two hA
  obtain ⟨rfl, rfl⟩ := trodVars_none hV
  obtain ⟨i, rfl, rfl, rfl, wi1⟩ := open_int Tryd.underlying3 (hval 1 3 v1 rfl rfl) h1
  obtain ⟨L0, s0, zs0, rfl, hz0, hlen0, hL0, hR0⟩ := bits_read (hval 0 24 v0 rfl rfl) h0
  clear hA0 hval0
  simp only [List.append_nil] at hW'
  have hlt0 : ∀ x ∈ p0, x.block < W.heap.size := fun x hx => by simpa using hW'.lt x (by simp [hx])
  have hT := tab_of_laid hL
  refine (fnNextClear_c L0 i s0 zs0 W hz0 hlen0 hL0 hR0 hT).mono fun e W' ⟨he, hk⟩ => ?_
  subst he
  have hb := hk.below
  refine ⟨_, rfl, _, _, _, [], p0 ++ [], [], hW', ?_, ?_, rfl, hb.frame _, fun h => by cases h⟩
  · exact trodAll_mk1 (shut_bool Tryd.underlying4 true)
  · exact trodAll_mk2 (Below.trod Tryd.laidOut (by kernel_rfl) (of_decide_eq_true (by kernel_rfl)) h0 hb hlt0) (shut_int Tryd.underlying3 wi1)

theorem fnNextClear_row : Rows.FnNextClearSaid :=
  OpenClaim.holds_of_wide 4 Tryd.f4 rfl rfl rfl rfl rfl rfl rfl ⟨rfl, rfl, rfl, rfl, rfl⟩ rfl rfl rfl rfl rfl (by kernel_rfl) Tryd.func4 (by kernel_rfl)
    (of_decide_eq_true (by kernel_rfl)) (by unfold Func.isWrapper; first | (rw [if_pos (by decide +kernel)]; kernel_rfl) | (rw [if_neg (by decide +kernel)]; exact ⟨rfl, rfl⟩))
    (fun os started H enc _ => fnNextClear_lifted os started H enc)

theorem fnNextClearCard_holds : Rows.FnNextClearCardSaid :=
  Claim7.holds_tied_plain_at .later [] [.data] true (true, "071c253dde6df62798ad3f12a1a7cac913dd6821ae4f6b8b9b17d7da068a5a9d") false
    fnNextClear_row (fun _ h => by cases h) (by kernel_rfl) (fun _ h => by cases h) fnNextClear_row_tie rfl ⟨rfl, rfl⟩ (by kernel_rfl) rfl
    (fun f fn hf hfn => by
      obtain rfl : f = 4 := Option.some.inj ((show Tryd.prog.funcNamed "loop.example/pub-setsofbits/laws.FnNextClear" = some 4 by kernel_rfl).symm.trans hf) |>.symm
      obtain rfl : fn = Tryd.f4 := (Option.some.inj (Tryd.func4.symm.trans hfn)).symm
      exact ⟨by kernel_rfl, fun j t ht => by
        rw [Tryd.params4] at ht
        have hm : t ∈ [24, 3] := by simpa using Array.mem_of_getElem? ht
        have hall : ([24, 3].all fun u => !Tryd.prog.wantsStandIn u) = true := by kernel_rfl
        exact (show Tryd.prog.wantsStandIn t = false by simpa using List.all_eq_true.1 hall t hm)⟩)
    (by kernel_rfl)

end Go.Proofs.YtafbdkcbgjpolaaDoor

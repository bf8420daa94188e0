/-
  laws.FnPreviousClear: for every input.
-/
import Derived.Test.YtpkojfcenhieeaaIPreviousClear
import Derived.Test.YtpkojfcenhieeaaRow
namespace Go.Proofs.Ytpkojfcenhieeaa
set_option linter.unusedSimpArgs false
set_option linter.unusedVariables false
open Go.RowKit

set_option maxHeartbeats 1000000 in
set_option linter.unusedVariables false in
theorem fnPreviousClear_bad (L : Int) (i : Int) (v : Value) (zs : List Int) (w : World) (hv : IntsZ w v zs) (hlen : zs.length ≤ 9223372036854775807) (hL : -9223372036854775808 ≤ L) (hL2 : L ≤ 9223372036854775807) (hb : ¬ (Good L zs ∧ 0 ≤ i ∧ i ≤ 2500)) :
    Calls Try.prog 4 #[.agg #[.int .i64 L, v], .int .i64 i] w fun e w' => e = .returned (.bool true) ∧ Kept [] w w' := by
  have k0 : Kept [] w (w.alloc (.cells #[.int .i64 L, v] 24)) := (Kept.refl _ _).alloc _
  have g0 : (w.alloc (.cells #[.int .i64 L, v] 24)).heap[w.heap.size]? = some (.cells #[.int .i64 L, v] 24 (0, 0)) := heap_alloc_new w _
  obtain ⟨ad, m, cap, rfl⟩ : ∃ ad m cap, v = .slice ad m cap := by
    rcases hv with ⟨ad, cap, h3, h4⟩ | ⟨b, off, cap, h3, _, _⟩ <;> exact ⟨_, _, _, h3⟩
  by_cases hm : m ≤ 2147483647
  · have hd : decide (m ≤ 2147483647) = true := by simpa using hm
    by_cases hg : Good L zs
    · obtain ⟨Ln, on, rfl, q1, q2, q3, q4⟩ := hv.good hg
      have hi : ¬ (0 ≤ i ∧ i ≤ 2500) := fun h => hb ⟨hg, h⟩
      have hdi : (decide (0 ≤ i) && decide (i ≤ 2500)) = false := by simp; omega
      clear hb hg
      go_enter Try.func4, Try.ntmps4
      go_wp2_with fail
      refine (zz_c Ln ad m cap _).mono ?_
      rintro e w1 ⟨rfl, k1⟩
      have c0 : w1.cell? ⟨w.heap.size, 0, none⟩ = some (.int .i64 Ln) := (cell_of_heap (k1.heap (by simp) g0)).trans rfl
      have c1 : w1.cell? ⟨w.heap.size, 1, none⟩ = some (.slice ad m cap) := (cell_of_heap (k1.heap (by simp) g0)).trans rfl
      rw [hd]
      go_wp2_with fail
      refine (setGood_c Ln _ on _ (q4.kept (k0.trans0 k1)) q1 q2 q3).mono ?_
      rintro e w2 ⟨s, rfl, hs, k2⟩
      obtain ⟨b, c, rfl⟩ := hs.shape
      go_wp2_with fail
      refine (fits_c i _).mono ?_
      rintro e w3 ⟨rfl, rfl⟩
      rw [hdi]
      go_wp2_with fail
      go_ret
      exact ⟨rfl, (((k0.trans0 k1).trans0 k2).alloc _)⟩
    · clear hb
      go_enter Try.func4, Try.ntmps4
      go_wp2_with fail
      refine (zz_c L ad m cap _).mono ?_
      rintro e w1 ⟨rfl, k1⟩
      have c0 : w1.cell? ⟨w.heap.size, 0, none⟩ = some (.int .i64 L) := (cell_of_heap (k1.heap (by simp) g0)).trans rfl
      have c1 : w1.cell? ⟨w.heap.size, 1, none⟩ = some (.slice ad m cap) := (cell_of_heap (k1.heap (by simp) g0)).trans rfl
      rw [hd]
      go_wp2_with fail
      refine (setBad_c L _ zs _ (hv.kept (k0.trans0 k1)) hg hlen hL hL2).mono ?_
      rintro e w2 ⟨rfl, k2⟩
      go_wp2_with fail
      go_ret
      exact ⟨rfl, (((k0.trans0 k1).trans0 k2).alloc _)⟩
  · have hd : decide (m ≤ 2147483647) = false := by simpa using hm
    clear hb
    go_enter Try.func4, Try.ntmps4
    go_wp2_with fail
    refine (zz_c L ad m cap _).mono ?_
    rintro e w1 ⟨rfl, k1⟩
    rw [hd]
    go_wp2_with fail
    go_ret
    exact ⟨rfl, k0.trans0 k1⟩

set_option maxHeartbeats 2000000 in
set_option linter.unusedVariables false in
theorem fnPreviousClear_good (L : Nat) (i : Nat) (v : Value) (on : List Nat) (w : World) (hv : IntsAt w v on) (hL : L ≤ 2000) (hlen : on.length ≤ 400) (hon : ∀ x ∈ on, x < 2500) (hi : i ≤ 2500) (hin : i < lenOf L on) :
    Calls Try.prog 4 #[.agg #[.int .i64 L, v], .int .i64 i] w fun e w' => e = .returned (.bool true) ∧ Kept [] w w' := by
  have k0 : Kept [] w (w.alloc (.cells #[.int .i64 L, v] 24)) := (Kept.refl _ _).alloc _
  have g0 : (w.alloc (.cells #[.int .i64 L, v] 24)).heap[w.heap.size]? = some (.cells #[.int .i64 L, v] 24 (0, 0)) := heap_alloc_new w _
  obtain ⟨ad, cap, rfl⟩ := hv.shape
  have hd : decide (on.length ≤ 2147483647) = true := by simp; omega
  have hdi : (decide ((0 : Int) ≤ i) && decide ((i : Int) ≤ 2500)) = true := by simp; omega
  have hln := lenOf_le L on 2500 (by omega) hon
  go_enter Try.func4, Try.ntmps4
  go_wp2_with fail
  refine (zz_c L ad on.length cap _).mono ?_
  rintro e w1 ⟨rfl, k1⟩
  have h1 := k1.heap (by simp) g0
  have c0 : w1.cell? ⟨w.heap.size, 0, none⟩ = some (.int .i64 L) := (cell_of_heap h1).trans rfl
  have c1 : w1.cell? ⟨w.heap.size, 1, none⟩ = some (.slice ad on.length cap) := (cell_of_heap h1).trans rfl
  rw [hd]
  go_wp2_with fail
  refine (setGood_c L _ on _ (hv.kept (k0.trans0 k1)) hL hlen hon).mono ?_
  rintro e w2 ⟨s, rfl, hs, k2⟩
  obtain ⟨b, c, rfl⟩ := hs.shape
  have hlt2 := lt_of_heap (k2.heap (by simp) h1)
  clear c0 c1
  go_wp2_with fail
  refine (fits_c i _).mono ?_
  rintro e w3 ⟨rfl, rfl⟩
  rw [hdi]
  have hin2 : ¬ ((lenOf L on : Nat) : Int) ≤ (i : Int) := by omega
  have h2a := k2.heap (by simp) h1
  have d0 : w2.cell? ⟨w.heap.size, 0, none⟩ = some (.int .i64 L) := (cell_of_heap h2a).trans rfl
  have d1 : w2.cell? ⟨w.heap.size, 1, none⟩ = some (.slice ad on.length cap) := (cell_of_heap h2a).trans rfl
  go_wp2_with fail
  have hs5 := hs.kept ((Kept.refl _ _).alloc (.cells #[.slice (some ⟨b, 0, none⟩) (lenOf L on) c, .bool true] 28))
  have k3 : Kept [] w2 (w2.alloc (.cells #[.slice (some ⟨b, 0, none⟩) (lenOf L on) c, .bool true] 28)) := (Kept.refl _ _).alloc _
  have gA := k3.heap (by simp) (k2.heap (by simp) h1)
  have gB := heap_alloc_new w2 (.cells #[.slice (some ⟨b, 0, none⟩) (lenOf L on) c, .bool true] 28)
  have hv5 := hv.kept (((k0.trans0 k1).trans0 k2).trans0 k3)
  have kW := ((k0.trans0 k1).trans0 k2).trans0 k3
  clear k3 hs k1 k2 h1 g0 k0 d0 d1 h2a
  obtain ⟨N, hN⟩ : ∃ N, lenOf L on = N := ⟨_, rfl⟩
  (try rw [hN] at hs5); (try rw [hN] at gB); (try rw [hN] at gA); (try rw [hN] at hln); (try rw [hN] at kW); (try rw [hN] at hv5)
  rw [hN]
  have HN := Lib.hid hN; clear hN
  generalize (w2.alloc (.cells #[.slice (some ⟨b, 0, none⟩) N c, .bool true] 28)) = W at *
  have A0 : ∀ w', Kept [] W w' → w'.cell? ⟨w.heap.size, 0, none⟩ = some (.int .i64 L) := fun w' k => (cell_of_heap (k.heap (by simp) gA)).trans rfl
  have A1 : ∀ w', Kept [] W w' → w'.cell? ⟨w.heap.size, 1, none⟩ = some (.slice ad on.length cap) := fun w' k => (cell_of_heap (k.heap (by simp) gA)).trans rfl
  have B0 : ∀ w', Kept [] W w' → w'.cell? ⟨w2.heap.size, 0, none⟩ = some (.slice (some ⟨b, 0, none⟩) N c) := fun w' k => (cell_of_heap (k.heap (by simp) gB)).trans rfl
  have B1 : ∀ w', Kept [] W w' → w'.cell? ⟨w2.heap.size, 1, none⟩ = some (.bool true) := fun w' k => (cell_of_heap (k.heap (by simp) gB)).trans rfl
  go_loopw [7] (fun v wr => ∃ (k : Nat) (x : Int), k ≤ i + 1 ∧ v = .int .i64 x ∧ x + 1 = k ∧ Hid (∀ j, k ≤ j → j < i + 1 → (fun j => !memOf on j) j = false) ∧ Kept [] W wr) (fun v _ => (intOf v + 1).toNat)
  case atStart => exact ⟨i + 1, (i : Int), Nat.le_refl _, rfl, by omega, (show ∀ j, i + 1 ≤ j → j < i + 1 → (fun j => !memOf on j) j = false from fun j h1 h2 => by omega), Kept.refl _ _⟩
  case round =>
    obtain ⟨k, x, hk, rfl, hx, hz, kr⟩ := hrel
    rcases k with _ | q
    · obtain rfl : x = -1 := by omega
      have hlst : lst (fun j => !memOf on j) (i + 1) = 0 := lst_nil _ _ (fun j hj => hz.out j (by omega) hj)
      have HLST := Lib.hid hlst; clear hlst
      have A0' := A0 wr kr; have A1' := A1 wr kr; have B0' := B0 wr kr; have B1' := B1 wr kr
      go_wp2_with fail
      refine (implPreviousClear_c L i _ on _ (hv5.kept kr) (by have := HN.out; omega) (by omega) (fun x hx => by have := hon x hx; omega) (by have := HN.out; omega)).mono ?_
      rintro e w8 ⟨rfl, k8⟩
      rw [HLST.out, topI_zero]
      clear A0' A1' B0' B1'
      have B0' := B0 w8 (kr.trans0 k8); have B1' := B1 w8 (kr.trans0 k8)
      go_wp2_with fail
      go_ret
      exact ⟨by simp, (kW.trans0 kr).trans0 k8⟩
    · obtain rfl : x = (q : Int) := by omega
      have hqN : q < N := by have := HN.out; omega
      cases hF : memOf on q with
      | true =>
        have A0' := A0 wr kr; have A1' := A1 wr kr; have B0' := B0 wr kr; have B1' := B1 wr kr
        have hat : fAt N (memOf on) ((q : Nat) : Int) = true := by rw [← hF]; simp [fAt, hqN]
        have R : ∀ j, q ≤ j → j < i + 1 → (fun j => !memOf on j) j = false := fun j h1 h2 => by
          rcases Nat.eq_or_lt_of_le h1 with h3 | h3
          · subst h3; simp [hF]
          · exact hz.out j h3 h2
        have HR := Lib.hid R; clear R
        have HAT := Lib.hid hat; clear hat hF
        go_wp2_with fail
        refine (at_c _ N (memOf on) true (q : Int) _ (hs5.kept kr)).mono ?_
        rintro e w7 ⟨rfl, k7⟩
        rw [HAT.out]
        go_wp2_with fail
        go_roundw
        case rel => exact ⟨q, (q : Int) - 1, by omega, by go_num, by omega, HR, kr.trans0 k7⟩
        case measure => simp [intOf] <;> omega
      | false =>
        have A0' := A0 wr kr; have A1' := A1 wr kr; have B0' := B0 wr kr; have B1' := B1 wr kr
        have hat : fAt N (memOf on) ((q : Nat) : Int) = false := by rw [← hF]; simp [fAt, hqN]
        have hlst : lst (fun j => !memOf on j) (i + 1) = q + 1 := lst_of _ _ q (by omega) (by simp [hF]) (fun j h1 h2 => hz.out j (by omega) h2)
        have HLST := Lib.hid hlst; clear hlst
        have HAT := Lib.hid hat; clear hat hF
        go_wp2_with fail
        refine (at_c _ N (memOf on) true (q : Int) _ (hs5.kept kr)).mono ?_
        rintro e w7 ⟨rfl, k7⟩
        rw [HAT.out]
        clear A0' A1' B0' B1'
        have A0' := A0 w7 (kr.trans0 k7); have A1' := A1 w7 (kr.trans0 k7)
        go_wp2_with fail
        refine (implPreviousClear_c L i _ on _ (hv5.kept (kr.trans0 k7)) (by have := HN.out; omega) (by omega) (fun x hx => by have := hon x hx; omega) (by have := HN.out; omega)).mono ?_
        rintro e w8 ⟨rfl, k8⟩
        rw [HLST.out, topI_pos]
        clear A0' A1'
        have B0' := B0 w8 ((kr.trans0 k7).trans0 k8); have B1' := B1 w8 ((kr.trans0 k7).trans0 k8)
        go_wp2_with fail
        go_ret
        exact ⟨by simp, ((kW.trans0 kr).trans0 k7).trans0 k8⟩

set_option maxHeartbeats 2000000 in
set_option linter.unusedVariables false in
theorem fnPreviousClear_un (L : Nat) (i : Nat) (v : Value) (on : List Nat) (w : World) (hv : IntsAt w v on) (hL : L ≤ 2000) (hlen : on.length ≤ 400) (hon : ∀ x ∈ on, x < 2500) (hi : i ≤ 2500) (hin : lenOf L on ≤ i) :
    Calls Try.prog 4 #[.agg #[.int .i64 L, v], .int .i64 i] w fun e w' => e = .returned (.bool true) ∧ Kept [] w w' := by
  have k0 : Kept [] w (w.alloc (.cells #[.int .i64 L, v] 24)) := (Kept.refl _ _).alloc _
  have g0 : (w.alloc (.cells #[.int .i64 L, v] 24)).heap[w.heap.size]? = some (.cells #[.int .i64 L, v] 24 (0, 0)) := heap_alloc_new w _
  obtain ⟨ad, cap, rfl⟩ := hv.shape
  have hd : decide (on.length ≤ 2147483647) = true := by simp; omega
  have hdi : (decide ((0 : Int) ≤ i) && decide ((i : Int) ≤ 2500)) = true := by simp; omega
  have hln := lenOf_le L on 2500 (by omega) hon
  go_enter Try.func4, Try.ntmps4
  go_wp2_with fail
  refine (zz_c L ad on.length cap _).mono ?_
  rintro e w1 ⟨rfl, k1⟩
  have h1 := k1.heap (by simp) g0
  have c0 : w1.cell? ⟨w.heap.size, 0, none⟩ = some (.int .i64 L) := (cell_of_heap h1).trans rfl
  have c1 : w1.cell? ⟨w.heap.size, 1, none⟩ = some (.slice ad on.length cap) := (cell_of_heap h1).trans rfl
  rw [hd]
  go_wp2_with fail
  refine (setGood_c L _ on _ (hv.kept (k0.trans0 k1)) hL hlen hon).mono ?_
  rintro e w2 ⟨s, rfl, hs, k2⟩
  obtain ⟨b, c, rfl⟩ := hs.shape
  have hlt2 := lt_of_heap (k2.heap (by simp) h1)
  clear c0 c1
  go_wp2_with fail
  refine (fits_c i _).mono ?_
  rintro e w3 ⟨rfl, rfl⟩
  rw [hdi]
  have hin2 : ((lenOf L on : Nat) : Int) ≤ (i : Int) := by omega
  go_wp2_with fail
  go_ret
  exact ⟨rfl, ((k0.trans0 k1).trans0 k2).alloc _⟩

theorem fnPreviousClear_c (L : Int) (i : Int) (v : Value) (zs : List Int) (w : World) (hv : IntsZ w v zs) (hlen : zs.length ≤ 9223372036854775807) (hL : -9223372036854775808 ≤ L) (hL2 : L ≤ 9223372036854775807) :
    Calls Try.prog 4 #[.agg #[.int .i64 L, v], .int .i64 i] w fun e w' => e = .returned (.bool true) ∧ Kept [] w w' := by
  by_cases hg : Good L zs ∧ 0 ≤ i ∧ i ≤ 2500
  · have hg0 := hg
    obtain ⟨hg1, pi, ri⟩ := hg
    obtain ⟨Ln, on, rfl, q1, q2, q3, q4⟩ := hv.good hg1
    obtain ⟨i, rfl⟩ := Int.eq_ofNat_of_zero_le pi
    by_cases hin : i < lenOf Ln on
    · exact fnPreviousClear_good Ln i v on w q4 q1 q2 q3 (by omega) hin
    · exact fnPreviousClear_un Ln i v on w q4 q1 q2 q3 (by omega) (by omega)
  · exact fnPreviousClear_bad L i v zs w hv hlen hL hL2 hg

open Go.ChangeShapes Go.WideShapes Go.ChangeAt Go.Joins

set_option maxRecDepth 100000 in
theorem fnPreviousClear_lifted (os : Os) (started : os.Started) (H : Type) (enc : TypeId × Value → H) :
    ReturnsInHanded {} Try.checked os 4 .any (Rows.fnPreviousClearSpec.pre6 enc Try.prog Try.f4 Rows.fnPreviousClearRow.domain false) (Rows.fnPreviousClearSpec.post enc Try.prog Try.f4 false true false false) := by
  refine returnsInHanded_of_change (C := Try.checked) Try.own started (by kernel_rfl) Try.func4
    (ChangeSpec.witness6 (enc := enc) (C := Try.checked) false ⟨#[], #[.agg #[.int .i64 0, .slice none 0 0], .int .i64 0], []⟩ 8 (by kernel_rfl) (by kernel_rfl) (by kernel_rfl) (by kernel_rfl)) ?_
  intro W base args ds gs before hval0 hW _ _
  have hval : ∀ (j : Nat) t v, Try.f4.params[j]? = some t → args[j]? = some v → Value.okWide Try.prog W .any base t v := hval0
  have hW' := hW
  obtain ⟨p, q, hA0, hV, rfl, _, _⟩ := hW
  have hA : DataW.TrodAll enc Try.prog W 0 (fun _ => true) true Try.f4.params.toList args.toList ds p := hA0
  rw [Try.params4] at hA hval
  obtain ⟨v0, v1, d0, d1, p0, p1, rfl, rfl, rfl, h0, h1⟩ := trodAll_two hA
  obtain ⟨rfl, rfl⟩ := trodVars_none hV
  obtain ⟨i, rfl, rfl, rfl, wi1⟩ := open_int Try.underlying3 (hval 1 3 v1 rfl rfl) h1
  obtain ⟨L0, s0, zs0, rfl, hz0, hlen0, hL0, hR0⟩ := bits_read (hval 0 24 v0 rfl rfl) h0
  clear hA0 hval0
  simp only [List.append_nil] at hW'
  have hlt0 : ∀ x ∈ p0, x.block < W.heap.size := fun x hx => by simpa using hW'.lt x hx
  refine (fnPreviousClear_c L0 i s0 zs0 W hz0 hlen0 hL0 hR0).mono fun e W' ⟨he, hk⟩ => ?_
  subst he
  have hb := hk.below
  refine ⟨_, rfl, _, _, _, [], p0 ++ [], [], hW', ?_, ?_, rfl, hb.frame _, fun h => by cases h⟩
  · exact trodAll_mk1 (shut_bool Try.underlying4 true)
  · exact trodAll_mk2 (Below.trod Try.laidOut (by kernel_rfl) (of_decide_eq_true (by kernel_rfl)) h0 hb hlt0) (shut_int Try.underlying3 wi1)

theorem fnPreviousClear_holds : Rows.FnPreviousClearSaid :=
  OpenClaim.holds_of_wide 4 Try.f4 rfl rfl rfl rfl rfl rfl rfl ⟨rfl, rfl, rfl, rfl, rfl⟩ rfl rfl rfl rfl rfl (by kernel_rfl) Try.func4 (by kernel_rfl)
    (of_decide_eq_true (by kernel_rfl)) (by unfold Func.isWrapper; first | (rw [if_pos (by decide +kernel)]; kernel_rfl) | (rw [if_neg (by decide +kernel)]; exact ⟨rfl, rfl⟩))
    (fun os started H enc _ => fnPreviousClear_lifted os started H enc)

end Go.Proofs.Ytpkojfcenhieeaa

/-
  laws.FnCloneApart: for every input.
-/
import Derived.Test.YtfdddnpmgaoddaaICloneApart
import Derived.Test.YtfdddnpmgaoddaaDoG
import Derived.Test.YtfdddnpmgaoddaaRow
namespace Go.Proofs.Ytfdddnpmgaoddaa
set_option linter.unusedSimpArgs false
set_option linter.unusedVariables false
open Go.RowKit

set_option maxHeartbeats 1000000 in
set_option linter.unusedVariables false in
theorem fnCloneApart_bad (L : Int) (i : Int) (v : Value) (zs : List Int) (w : World) (hv : IntsZ w v zs) (hlen : zs.length ≤ 9223372036854775807) (hL : -9223372036854775808 ≤ L) (hL2 : L ≤ 9223372036854775807) (hb : ¬ (Good L zs ∧ 0 ≤ i ∧ i ≤ 2500)) :
    Calls Try.prog 10 #[.agg #[.int .i64 L, v], .int .i64 i] w fun e w' => e = .returned (.bool true) ∧ Kept [] w w' := by
  have k0 : Kept [] w (w.alloc (.cells #[.int .i64 L, v] 24)) := (Kept.refl _ _).alloc _
  have g0 : (w.alloc (.cells #[.int .i64 L, v] 24)).heap[w.heap.size]? = some (.cells #[.int .i64 L, v] 24 (0, 0)) := heap_alloc_new w _
  obtain ⟨ad, m, cap, rfl⟩ : ∃ ad m cap, v = .slice ad m cap := by
    rcases hv with ⟨ad, cap, h3, h4⟩ | ⟨b, off, cap, h3, _, _⟩ <;> exact ⟨_, _, _, h3⟩
  by_cases hm : m ≤ 2147483647
  · have hd : decide (m ≤ 2147483647) = true := by simpa using hm
    by_cases hg : Good L zs
    · obtain ⟨Ln, on, rfl, q1, q2, q3, q4⟩ := hv.good hg
      have hi : ¬ (0 ≤ i ∧ i ≤ 2500) := fun h => hb ⟨hg, h⟩
      have hdi : (decide (0 ≤ i) && decide (i ≤ 2500)) = false := by simp; omega
      clear hb hg
      go_enter Try.func10, Try.ntmps10
      go_wp2_with fail
      refine (zz_c Ln ad m cap _).mono ?_
      rintro e w1 ⟨rfl, k1⟩
      have c0 : w1.cell? ⟨w.heap.size, 0, none⟩ = some (.int .i64 Ln) := (cell_of_heap (k1.heap (by simp) g0)).trans rfl
      have c1 : w1.cell? ⟨w.heap.size, 1, none⟩ = some (.slice ad m cap) := (cell_of_heap (k1.heap (by simp) g0)).trans rfl
      rw [hd]
      go_wp2_with fail
      refine (setGood_c Ln _ on _ (q4.kept (k0.trans0 k1)) q1 q2 q3).mono ?_
      rintro e w2 ⟨s, rfl, hs, k2⟩
      obtain ⟨b, c, rfl⟩ := hs.shape
      go_wp2_with fail
      refine (fits_c i _).mono ?_
      rintro e w3 ⟨rfl, rfl⟩
      rw [hdi]
      go_wp2_with fail
      go_ret
      exact ⟨rfl, (((k0.trans0 k1).trans0 k2).alloc _)⟩
    · clear hb
      go_enter Try.func10, Try.ntmps10
      go_wp2_with fail
      refine (zz_c L ad m cap _).mono ?_
      rintro e w1 ⟨rfl, k1⟩
      have c0 : w1.cell? ⟨w.heap.size, 0, none⟩ = some (.int .i64 L) := (cell_of_heap (k1.heap (by simp) g0)).trans rfl
      have c1 : w1.cell? ⟨w.heap.size, 1, none⟩ = some (.slice ad m cap) := (cell_of_heap (k1.heap (by simp) g0)).trans rfl
      rw [hd]
      go_wp2_with fail
      refine (setBad_c L _ zs _ (hv.kept (k0.trans0 k1)) hg hlen hL hL2).mono ?_
      rintro e w2 ⟨rfl, k2⟩
      go_wp2_with fail
      go_ret
      exact ⟨rfl, (((k0.trans0 k1).trans0 k2).alloc _)⟩
  · have hd : decide (m ≤ 2147483647) = false := by simpa using hm
    clear hb
    go_enter Try.func10, Try.ntmps10
    go_wp2_with fail
    refine (zz_c L ad m cap _).mono ?_
    rintro e w1 ⟨rfl, k1⟩
    rw [hd]
    go_wp2_with fail
    go_ret
    exact ⟨rfl, k0.trans0 k1⟩

set_option maxHeartbeats 2000000 in
set_option linter.unusedVariables false in
theorem fnCloneApart_good (L : Nat) (i : Nat) (v : Value) (on : List Nat) (w : World) (hv : IntsAt w v on) (hL : L ≤ 2000) (hlen : on.length ≤ 400) (hon : ∀ x ∈ on, x < 2500) (hi : i ≤ 2500) :
    Calls Try.prog 10 #[.agg #[.int .i64 L, v], .int .i64 i] w fun e w' => e = .returned (.bool true) ∧ Kept [] w w' := by
  have k0 : Kept [] w (w.alloc (.cells #[.int .i64 L, v] 24)) := (Kept.refl _ _).alloc _
  have g0 : (w.alloc (.cells #[.int .i64 L, v] 24)).heap[w.heap.size]? = some (.cells #[.int .i64 L, v] 24 (0, 0)) := heap_alloc_new w _
  obtain ⟨ad, cap, rfl⟩ := hv.shape
  have hd : decide (on.length ≤ 2147483647) = true := by simp; omega
  have hdi : (decide ((0 : Int) ≤ i) && decide ((i : Int) ≤ 2500)) = true := by simp; omega
  have hln := lenOf_le L on 2500 (by omega) hon
  go_enter Try.func10, Try.ntmps10
  go_wp2_with fail
  refine (zz_c L ad on.length cap _).mono ?_
  rintro e w1 ⟨rfl, k1⟩
  have h1 := k1.heap (by simp) g0
  have c0 : w1.cell? ⟨w.heap.size, 0, none⟩ = some (.int .i64 L) := (cell_of_heap h1).trans rfl
  have c1 : w1.cell? ⟨w.heap.size, 1, none⟩ = some (.slice ad on.length cap) := (cell_of_heap h1).trans rfl
  rw [hd]
  go_wp2_with fail
  refine (setGood_c L _ on _ (hv.kept (k0.trans0 k1)) hL hlen hon).mono ?_
  rintro e w2 ⟨s, rfl, hs, k2⟩
  obtain ⟨b, c, rfl⟩ := hs.shape
  have hlt2 := lt_of_heap (k2.heap (by simp) h1)
  clear c0 c1
  go_wp2_with fail
  refine (fits_c i _).mono ?_
  rintro e w3 ⟨rfl, rfl⟩
  rw [hdi]
  have h2a := k2.heap (by simp) h1
  have d0 : w2.cell? ⟨w.heap.size, 0, none⟩ = some (.int .i64 L) := (cell_of_heap h2a).trans rfl
  have d1 : w2.cell? ⟨w.heap.size, 1, none⟩ = some (.slice ad on.length cap) := (cell_of_heap h2a).trans rfl
  go_wp2_with fail
  have k3 : Kept [] w2 (w2.alloc (.cells #[.slice (some ⟨b, 0, none⟩) (lenOf L on) c, .bool true] 28)) := (Kept.refl _ _).alloc _
  have hs3 := hs.kept k3
  have gB := heap_alloc_new w2 (.cells #[.slice (some ⟨b, 0, none⟩) (lenOf L on) c, .bool true] 28)
  have hv3 := hv.kept (((k0.trans0 k1).trans0 k2).trans0 k3)
  have kW := ((k0.trans0 k1).trans0 k2).trans0 k3
  clear hs k1 h1 h2a g0 k0 k2 k3
  obtain ⟨N, hN⟩ : ∃ N, lenOf L on = N := ⟨_, rfl⟩
  rw [hN] at hs3 gB hln kW hv3 ⊢
  have HN := Lib.hid hN; clear hN
  generalize (w2.alloc (.cells #[.slice (some ⟨b, 0, none⟩) N c, .bool true] 28)) = W3 at *
  refine (implCloneApart_c L i _ on _ hv3 (by omega) (by omega) (fun x hx => by have := hon x hx; omega) hi).mono ?_
  rintro e w6 ⟨M1, M2, v1, v2, rfl, hM1', hM2', hi1, hi2, k6⟩
  have hM1 := Lib.hid hM1'; have hM2 := Lib.hid hM2'; clear hM1' hM2'
  obtain ⟨ad1, cp1, rfl⟩ := hi1.shape
  obtain ⟨ad2, cp2, rfl⟩ := hi2.shape
  generalize hl1 : (onL (lenOf L on) (memOf on)).length = len1 at *
  generalize hl2 : (onL (max (lenOf L on) (i + 1)) (fun j => (j == i) ^^ (decide (j < lenOf L on) && memOf on j))).length = len2 at *
  have HL1 := Lib.hid hl1; have HL2 := Lib.hid hl2; clear hl1 hl2
  have gB6 := k6.heap (by simp) gB
  have k7 : Kept [] w6 ((w6.alloc (.cells #[.int .i64 M1, .slice ad1 len1 cp1] 24)).alloc (.cells #[.int .i64 M2, .slice ad2 len2 cp2] 24)) := ((Kept.refl _ _).alloc _).alloc _
  have gP : ((w6.alloc (.cells #[.int .i64 M1, .slice ad1 len1 cp1] 24)).alloc (.cells #[.int .i64 M2, .slice ad2 len2 cp2] 24)).heap[w6.heap.size]? = some (.cells #[.int .i64 M1, .slice ad1 len1 cp1] 24 (0, 0)) := alloc_heap_old (heap_alloc_new w6 _) _
  have gQ : ((w6.alloc (.cells #[.int .i64 M1, .slice ad1 len1 cp1] 24)).alloc (.cells #[.int .i64 M2, .slice ad2 len2 cp2] 24)).heap[w6.heap.size + 1]? = some (.cells #[.int .i64 M2, .slice ad2 len2 cp2] 24 (0, 0)) := by
    have := heap_alloc_new (w6.alloc (.cells #[.int .i64 M1, .slice ad1 len1 cp1] 24)) (.cells #[.int .i64 M2, .slice ad2 len2 cp2] 24)
    simpa using this
  obtain ⟨x0, x1, _, _, _, _⟩ := box2 (k7.heap (by simp) gB6) (.bool true) (.bool true)
  obtain ⟨xx0, xx1, _, _, _, _⟩ := box2 gB6 (.bool true) (.bool true)
  have hlt := lt_of_heap gB6
  have hlt' : w2.heap.size < w6.heap.size + 1 := by omega
  go_wp2_with fail
  refine (do2_c _ N i (memOf on) true _ ((hs3.kept k6).kept k7) (by omega) hi).mono ?_
  rintro e w8 ⟨s', rfl, hs8, k8⟩
  obtain ⟨b8, c8, rfl⟩ := hs8.shape
  obtain ⟨T, hT⟩ : ∃ T, max N (i + 1) = T := ⟨_, rfl⟩
  rw [hT] at hs8 ⊢
  have HT := Lib.hid hT; clear hT
  clear x0 x1 xx0 xx1
  obtain ⟨x0, x1, _, _, _, _⟩ := box2 (k8.heap (by simp) (k7.heap (by simp) gB6)) (.bool true) (.bool true)
  obtain ⟨p0, p1, _, _, _, _⟩ := box2 (k8.heap (by simp) gP) (.bool true) (.bool true)
  have hltP := lt_of_heap (k8.heap (by simp) gP)
  have hltX := lt_of_heap (k8.heap (by simp) (k7.heap (by simp) gB6))
  have k9 : Kept [] w8 (w8.alloc (.cells #[.slice (some ⟨b8, 0, none⟩) T c8, .bool true] 28)) := (Kept.refl _ _).alloc _
  have g9 := heap_alloc_new w8 (.cells #[.slice (some ⟨b8, 0, none⟩) T c8, .bool true] 28)
  go_wp2_with fail
  have kX := ((k6.trans0 k7).trans0 k8).trans0 k9
  refine (bits_c M1 (.slice ad1 len1 cp1) _ N (memOf on) true _ (by rw [← HN.out]; exact ((hi1.kept k7).kept k8).kept k9) (hs3.kept kX) (by omega) (fun _ => by rw [hM1.out]; exact HN.out)).mono ?_
  rintro e w10 ⟨rfl, k10⟩
  obtain ⟨q0, q1, _, _, _, _⟩ := box2 (k10.heap (by simp) (k9.heap (by simp) (k8.heap (by simp) gQ))) (.bool true) (.bool true)
  obtain ⟨y0, y1, _, _, _, _⟩ := box2 (k10.heap (by simp) g9) (.bool true) (.bool true)
  go_wp2_with fail
  refine (bits_c M2 (.slice ad2 len2 cp2) _ T (fun j => (j == i) ^^ (decide (j < N) && memOf on j)) true _ (by rw [← HT.out, ← HN.out]; exact (((hi2.kept k7).kept k8).kept k9).kept k10) ((hs8.kept k9).kept k10) (by have := HT.out; omega) (fun _ => by rw [hM2.out, ← HT.out, HN.out])).mono ?_
  rintro e w11 ⟨rfl, k11⟩
  go_wp2_with fail
  go_ret
  exact ⟨rfl, (kW.trans0 kX).trans0 (k10.trans0 k11)⟩

theorem fnCloneApart_c (L : Int) (i : Int) (v : Value) (zs : List Int) (w : World) (hv : IntsZ w v zs) (hlen : zs.length ≤ 9223372036854775807) (hL : -9223372036854775808 ≤ L) (hL2 : L ≤ 9223372036854775807) :
    Calls Try.prog 10 #[.agg #[.int .i64 L, v], .int .i64 i] w fun e w' => e = .returned (.bool true) ∧ Kept [] w w' := by
  by_cases hg : Good L zs ∧ 0 ≤ i ∧ i ≤ 2500
  · have hg0 := hg
    obtain ⟨hg1, pi, ri⟩ := hg
    obtain ⟨Ln, on, rfl, q1, q2, q3, q4⟩ := hv.good hg1
    obtain ⟨i, rfl⟩ := Int.eq_ofNat_of_zero_le pi
    exact fnCloneApart_good Ln i v on w q4 q1 q2 q3 (by omega)
  · exact fnCloneApart_bad L i v zs w hv hlen hL hL2 hg

open Go.ChangeShapes Go.WideShapes Go.ChangeAt Go.Joins

set_option maxRecDepth 100000 in
theorem fnCloneApart_lifted (os : Os) (started : os.Started) (H : Type) (enc : TypeId × Value → H) :
    ReturnsInHanded {} Try.checked os 10 .any (Rows.fnCloneApartSpec.pre6 enc Try.prog Try.f10 Rows.fnCloneApartRow.domain false) (Rows.fnCloneApartSpec.post enc Try.prog Try.f10 false true false false) := by
  refine returnsInHanded_of_change (C := Try.checked) Try.own started (by kernel_rfl) Try.func10
    (ChangeSpec.witness6 (enc := enc) (C := Try.checked) false ⟨#[], #[.agg #[.int .i64 0, .slice none 0 0], .int .i64 0], []⟩ 8 (by kernel_rfl) (by kernel_rfl) (by kernel_rfl) (by kernel_rfl)) ?_
  intro W base args ds gs before hval0 hW _ _
  have hval : ∀ (j : Nat) t v, Try.f10.params[j]? = some t → args[j]? = some v → Value.okWide Try.prog W .any base t v := hval0
  have hW' := hW
  obtain ⟨p, q, hA0, hV, rfl, _, _⟩ := hW
  have hA : DataW.TrodAll enc Try.prog W 0 (fun _ => true) true Try.f10.params.toList args.toList ds p := hA0
  rw [Try.params10] at hA hval
  obtain ⟨v0, v1, d0, d1, p0, p1, rfl, rfl, rfl, h0, h1⟩ := trodAll_two hA
  obtain ⟨rfl, rfl⟩ := trodVars_none hV
  obtain ⟨i, rfl, rfl, rfl, wi1⟩ := open_int Try.underlying3 (hval 1 3 v1 rfl rfl) h1
  obtain ⟨L0, s0, zs0, rfl, hz0, hlen0, hL0, hR0⟩ := bits_read (hval 0 24 v0 rfl rfl) h0
  clear hA0 hval0
  simp only [List.append_nil] at hW'
  have hlt0 : ∀ x ∈ p0, x.block < W.heap.size := fun x hx => by simpa using hW'.lt x hx
  refine (fnCloneApart_c L0 i s0 zs0 W hz0 hlen0 hL0 hR0).mono fun e W' ⟨he, hk⟩ => ?_
  subst he
  have hb := hk.below
  refine ⟨_, rfl, _, _, _, [], p0 ++ [], [], hW', ?_, ?_, rfl, hb.frame _, fun h => by cases h⟩
  · exact trodAll_mk1 (shut_bool Try.underlying4 true)
  · exact trodAll_mk2 (Below.trod Try.laidOut (by kernel_rfl) (of_decide_eq_true (by kernel_rfl)) h0 hb hlt0) (shut_int Try.underlying3 wi1)

theorem fnCloneApart_holds : Rows.FnCloneApartSaid :=
  OpenClaim.holds_of_wide 10 Try.f10 rfl rfl rfl rfl rfl rfl rfl ⟨rfl, rfl, rfl, rfl, rfl⟩ rfl rfl rfl rfl rfl (by kernel_rfl) Try.func10 (by kernel_rfl)
    (of_decide_eq_true (by kernel_rfl)) (by unfold Func.isWrapper; first | (rw [if_pos (by decide +kernel)]; kernel_rfl) | (rw [if_neg (by decide +kernel)]; exact ⟨rfl, rfl⟩))
    (fun os started H enc _ => fnCloneApart_lifted os started H enc)

end Go.Proofs.Ytfdddnpmgaoddaa

/-
  laws.FnSetBitsetFrom: for every input.
-/
import Derived.Test.YtfkgljohmgeocaaISbf
import Derived.Test.YtfkgljohmgeocaaAlike
import Derived.Test.YtfkgljohmgeocaaRow
namespace Go.Proofs.Ytfkgljohmgeocaa
set_option linter.unusedSimpArgs false
set_option linter.unusedVariables false
open Go.RowKit

set_option maxHeartbeats 2000000 in
theorem fnSetBitsetFrom_c (L : Int) (v : Value) (zs : List Int) (u : Value) (l : List Nat) (w : World) (hv : IntsZ w v zs) (hlen : zs.length ≤ 9223372036854775807) (hL : -9223372036854775808 ≤ L) (hL2 : L ≤ 9223372036854775807) (hu : U64At w u l) (hlt : ∀ x ∈ l, x < 2 ^ 64) (hlu : l.length ≤ 9223372036854775807) :
    Calls Try.prog 10 #[.agg #[.int .i64 L, v], u] w fun e w' => e = .returned (.bool true) ∧ Kept [] w w' := by
  have k0 : Kept [] w (w.alloc (.cells #[.int .i64 L, v] 27)) := (Kept.refl _ _).alloc _
  have g0 : (w.alloc (.cells #[.int .i64 L, v] 27)).heap[w.heap.size]? = some (.cells #[.int .i64 L, v] 27 (0, 0)) := heap_alloc_new w _
  obtain ⟨ad0, m0, cap0, rfl⟩ : ∃ ad m cap, v = .slice ad m cap := by
    rcases hv with ⟨ad, cap, h3, h4⟩ | ⟨b, off, cap, h3, _, _⟩ <;> exact ⟨_, _, _, h3⟩
  obtain ⟨ad, cp, rfl⟩ := hu.shape
  obtain ⟨m, hm⟩ : ∃ m, l.length = m := ⟨_, rfl⟩
  rw [hm] at hu hlu ⊢
  have HM := Lib.hid hm; clear hm
  by_cases hz : m0 ≤ 2147483647
  · have hd : decide (m0 ≤ 2147483647) = true := by simpa using hz
    by_cases h1 : m ≤ 2147483647
    · have h1' : ¬ (2147483647 : Int) < (m : Int) := by omega
      by_cases hg : Good L zs
      · obtain ⟨Ln, on, rfl, q1, q2, q3, q4⟩ := hv.good hg
        by_cases h2 : m ≤ 30
        · have h2' : ¬ (30 : Int) < (m : Int) := by omega
          obtain ⟨N, hN⟩ : ∃ N, 64 * m = N := ⟨_, rfl⟩
          have e1 : 64 * (m : Int) = (N : Int) := by omega
          have hN2 : N ≤ 2000 := by omega
          have HN := Lib.hid hN; clear hN
          go_enter Try.func10, Try.ntmps10
          go_wp2_with fail
          refine (zz_c Ln ad0 m0 cap0 _).mono ?_
          rintro e w1 ⟨rfl, k1⟩
          rw [hd]
          have c0 : w1.cell? ⟨w.heap.size, 0, none⟩ = some (.int .i64 Ln) := (cell_of_heap (k1.heap (by simp) g0)).trans rfl
          have c1 : w1.cell? ⟨w.heap.size, 1, none⟩ = some (.slice ad0 m0 cap0) := (cell_of_heap (k1.heap (by simp) g0)).trans rfl
          go_wp2_with fail
          refine (setGood_c Ln _ on _ (q4.kept (k0.trans0 k1)) q1 q2 q3).mono ?_
          rintro e w2 ⟨s, rfl, hs, k2⟩
          obtain ⟨b, c, rfl⟩ := hs.shape
          have h2a := k2.heap (by simp) (k1.heap (by simp) g0)
          have d0 : w2.cell? ⟨w.heap.size, 0, none⟩ = some (.int .i64 Ln) := (cell_of_heap h2a).trans rfl
          have d1 : w2.cell? ⟨w.heap.size, 1, none⟩ = some (.slice ad0 m0 cap0) := (cell_of_heap h2a).trans rfl
          have hlt2 := lt_of_heap h2a
          clear c0 c1
          go_wp2_with fail
          have k3 : Kept [] w2 (w2.alloc (.cells #[.slice (some ⟨b, 0, none⟩) (lenOf Ln on) c, .bool true] 31)) := (Kept.refl _ _).alloc _
          have kW := ((k0.trans0 k1).trans0 k2).trans0 k3
          refine (implSetBitsetFrom_c Ln _ on _ l N _ (q4.kept kW) (by omega) (by omega) (fun x hx => by have := q3 x hx; omega) (hu.kept kW) (by rw [HM.out]; exact h2) hlt (by rw [HM.out]; exact HN.out)).mono ?_
          rintro e w5 ⟨v5, rfl, h5i, k5⟩
          obtain ⟨ad5, cp5, rfl⟩ := h5i.shape
          go_wp2_with fail
          refine (ofWords_c N _ l _ (hu.kept (kW.trans0 k5)) (by rw [HM.out]; omega) hlt (by omega)).mono ?_
          rintro e w6 ⟨s6, rfl, hs6, k6⟩
          obtain ⟨b6, c6, rfl⟩ := hs6.shape
          go_wp2_with fail
          refine (bits_c N _ _ N (wbit l) true _ (h5i.kept k6) hs6 (by omega) (fun _ => rfl)).mono ?_
          rintro e w7 ⟨rfl, k7⟩
          go_wp2_with fail
          go_ret
          exact ⟨rfl, ((kW.trans0 k5).trans0 k6).trans0 k7⟩
        · have h2' : (30 : Int) < (m : Int) := by omega
          go_enter Try.func10, Try.ntmps10
          go_wp2_with fail
          refine (zz_c Ln ad0 m0 cap0 _).mono ?_
          rintro e w1 ⟨rfl, k1⟩
          rw [hd]
          have c0 : w1.cell? ⟨w.heap.size, 0, none⟩ = some (.int .i64 Ln) := (cell_of_heap (k1.heap (by simp) g0)).trans rfl
          have c1 : w1.cell? ⟨w.heap.size, 1, none⟩ = some (.slice ad0 m0 cap0) := (cell_of_heap (k1.heap (by simp) g0)).trans rfl
          go_wp2_with fail
          refine (setGood_c Ln _ on _ (q4.kept (k0.trans0 k1)) q1 q2 q3).mono ?_
          rintro e w2 ⟨s, rfl, hs, k2⟩
          obtain ⟨b, c, rfl⟩ := hs.shape
          go_wp2_with fail
          go_ret
          exact ⟨rfl, (((k0.trans0 k1).trans0 k2).alloc _)⟩
      · skip
        go_enter Try.func10, Try.ntmps10
        go_wp2_with fail
        refine (zz_c L ad0 m0 cap0 _).mono ?_
        rintro e w1 ⟨rfl, k1⟩
        rw [hd]
        have c0 : w1.cell? ⟨w.heap.size, 0, none⟩ = some (.int .i64 L) := (cell_of_heap (k1.heap (by simp) g0)).trans rfl
        have c1 : w1.cell? ⟨w.heap.size, 1, none⟩ = some (.slice ad0 m0 cap0) := (cell_of_heap (k1.heap (by simp) g0)).trans rfl
        go_wp2_with fail
        refine (setBad_c L _ zs _ (hv.kept (k0.trans0 k1)) hg hlen hL hL2).mono ?_
        rintro e w2 ⟨rfl, k2⟩
        go_wp2_with fail
        go_ret
        exact ⟨rfl, (((k0.trans0 k1).trans0 k2).alloc _)⟩
    · have h1' : (2147483647 : Int) < (m : Int) := by omega
      go_enter Try.func10, Try.ntmps10
      go_wp2_with fail
      refine (zz_c L ad0 m0 cap0 _).mono ?_
      rintro e w1 ⟨rfl, k1⟩
      rw [hd]
      go_wp2_with fail
      go_ret
      exact ⟨rfl, k0.trans0 k1⟩
  · have hd : decide (m0 ≤ 2147483647) = false := by simpa using hz
    go_enter Try.func10, Try.ntmps10
    go_wp2_with fail
    refine (zz_c L ad0 m0 cap0 _).mono ?_
    rintro e w1 ⟨rfl, k1⟩
    rw [hd]
    go_wp2_with fail
    go_ret
    exact ⟨rfl, k0.trans0 k1⟩

open Go.ChangeShapes Go.WideShapes Go.ChangeAt Go.Joins

set_option maxRecDepth 100000 in
theorem fnSetBitsetFrom_lifted (os : Os) (started : os.Started) (H : Type) (enc : TypeId × Value → H) :
    ReturnsInHanded {} Try.checked os 10 .any (Rows.fnSetBitsetFromSpec.pre6 enc Try.prog Try.f10 Rows.fnSetBitsetFromRow.domain false) (Rows.fnSetBitsetFromSpec.post enc Try.prog Try.f10 false true false false) := by
  refine returnsInHanded_of_change (C := Try.checked) Try.own started (by kernel_rfl) Try.func10
    (ChangeSpec.witness6 (enc := enc) (C := Try.checked) false ⟨#[], #[.agg #[.int .i64 0, .slice none 0 0], .slice none 0 0], []⟩ 8 (by kernel_rfl) (by kernel_rfl) (by kernel_rfl) (by kernel_rfl)) ?_
  intro W base args ds gs before hval0 hW _ _
  have hval : ∀ (j : Nat) t v, Try.f10.params[j]? = some t → args[j]? = some v → Value.okWide Try.prog W .any base t v := hval0
  have hW' := hW
  obtain ⟨p, q, hA0, hV, rfl, _, _⟩ := hW
  have hA : DataW.TrodAll enc Try.prog W 0 (fun _ => true) true Try.f10.params.toList args.toList ds p := hA0
  rw [Try.params10] at hA hval
  obtain ⟨v0, v1, d0, d1, p0, p1, rfl, rfl, rfl, h0, h1⟩ := trodAll_two hA
  obtain ⟨rfl, rfl⟩ := trodVars_none hV
  obtain ⟨l1, hu1, hul1, hun1⟩ := words_read (hval 1 22 v1 rfl rfl) h1
  obtain ⟨L0, s0, zs0, rfl, hz0, hlen0, hL0, hR0⟩ := bits_read (hval 0 27 v0 rfl rfl) h0
  clear hA0 hval0
  simp only [List.append_nil] at hW'
  have hlt0 : ∀ x ∈ p0, x.block < W.heap.size := fun x hx => by simpa using hW'.lt x (by simp [hx])
  have hlt1 : ∀ x ∈ p1, x.block < W.heap.size := fun x hx => by simpa using hW'.lt x (by simp [hx])
  refine (fnSetBitsetFrom_c L0 s0 zs0 v1 l1 W hz0 hlen0 hL0 hR0 hu1 hul1 hun1).mono fun e W' ⟨he, hk⟩ => ?_
  subst he
  have hb := hk.below
  refine ⟨_, rfl, _, _, _, [], p0 ++ p1, [], hW', ?_, ?_, rfl, hb.frame _, fun h => by cases h⟩
  · exact trodAll_mk1 (shut_bool Try.underlying4 true)
  · exact trodAll_mk2 (Below.trod Try.laidOut (by kernel_rfl) (of_decide_eq_true (by kernel_rfl)) h0 hb hlt0) (Below.trod Try.laidOut (by kernel_rfl) (of_decide_eq_true (by kernel_rfl)) h1 hb hlt1)

theorem fnSetBitsetFrom_holds : Rows.FnSetBitsetFromSaid :=
  OpenClaim.holds_of_wide 10 Try.f10 rfl rfl rfl rfl rfl rfl rfl ⟨rfl, rfl, rfl, rfl, rfl⟩ rfl rfl rfl rfl rfl (by kernel_rfl) Try.func10 (by kernel_rfl)
    (of_decide_eq_true (by kernel_rfl)) (by unfold Func.isWrapper; first | (rw [if_pos (by decide +kernel)]; kernel_rfl) | (rw [if_neg (by decide +kernel)]; exact ⟨rfl, rfl⟩))
    (fun os started H enc _ => fnSetBitsetFrom_lifted os started H enc)

end Go.Proofs.Ytfkgljohmgeocaa

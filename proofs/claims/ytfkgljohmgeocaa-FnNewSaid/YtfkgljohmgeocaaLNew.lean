/-
  laws.FnNew: for every input.
-/
import Derived.Test.YtfkgljohmgeocaaNew
import Derived.Test.YtfkgljohmgeocaaLeast
import Derived.Test.YtfkgljohmgeocaaRow
namespace Go.Proofs.Ytfkgljohmgeocaa
open Go.RowKit

set_option maxHeartbeats 1000000 in
theorem implNew_c (n : Nat) (w : World) (hn : n ≤ 2500) :
    Calls Try.prog 20 #[.int .i64 n] w fun e w' => ∃ (v' : Value), e = .returned (.agg #[.int .i64 n, v']) ∧ IntsAt w' v' [] ∧ Kept [] w w' := by
  have k0 : Kept [] w (w.alloc (.cells #[.int .i64 0, .slice none 0 0] 27)) := (Kept.refl _ _).alloc _
  have g0 := heap_alloc_new w (.cells #[.int .i64 0, .slice none 0 0] 27)
  go_enter Try.func20, Try.ntmps20
  go_wp2_with fail
  refine (new_c n _ (by omega)).mono ?_
  rintro e w2 ⟨b, g, rfl, hb2, n1, n2, k1⟩
  have s0 : w.heap.size + 1 ≤ b ∧ w.heap.size + 1 ≤ g := by simp at n1 n2; omega
  go_wp2_with fail
  refine (told_c b g _ _ w2 hb2 (by omega)).mono ?_
  rintro e w3 ⟨v3, rfl, hown, k3⟩
  have gR := k3.heap (by simp) (k1.heap (by simp) g0)
  have kA : Kept [] w w3 := (k0.trans0 k1).trans0 k3
  obtain ⟨ad, ln, cp, rfl⟩ := slice_of_owns hown
  obtain ⟨c0, c1, z0, z1, e0, e1⟩ := box2 gR (.int .i64 n) (.slice ad ln cp)
  clear gR g0 hb2
  have hs1 := k1.size
  simp at hs1
  have h3 := IntsAt.of_owns (ownsRow_setCell_below (a := ⟨w.heap.size, 1, none⟩) (ownsRow_setCell_below (a := ⟨w.heap.size, 0, none⟩) hown (by show w.heap.size < w2.heap.size + 2; omega) (.int .i64 n)) (by show w.heap.size < w2.heap.size + 2; omega) (.slice ad ln cp))
  have hE : onL n (fun _ => false) = [] := by simp [onL]
  rw [hE] at h3
  clear hE hown
  go_wp2_with fail
  refine bodyPost_ret (v := .agg #[.int .i64 n, .slice ad ln cp]) (by simp [results, Try.results20, go_sem, e0, e1]) rfl ⟨_, rfl, h3, (kA.setCell (by right; simp) _).setCell (by right; simp) _⟩

set_option maxHeartbeats 1000000 in
theorem fnNew_c (i : Int) (w : World) :
    Calls Try.prog 5 #[.int .i64 i] w fun e w' => e = .returned (.bool true) ∧ Kept [] w w' := by
  by_cases h : 0 ≤ i ∧ i ≤ 2500
  · have hd : (decide (0 ≤ i) && decide (i ≤ 2500)) = true := by simp; omega
    obtain ⟨n, rfl⟩ := Int.eq_ofNat_of_zero_le h.1
    have hn : n ≤ 2500 := by omega
    clear h
    go_enter Try.func5, Try.ntmps5
    go_wp2_with fail
    refine (fits_c n _).mono ?_
    rintro e w3 ⟨rfl, rfl⟩
    rw [hd]
    go_wp2_with fail
    refine (implNew_c n _ hn).mono ?_
    rintro e w4 ⟨v, rfl, hv, k4⟩
    obtain ⟨ad, cap, rfl⟩ := hv.shape
    simp only [List.length_nil]
    go_wp2_with fail
    go_ret
    exact ⟨by simp, k4.alloc _⟩
  · have hd : (decide (0 ≤ i) && decide (i ≤ 2500)) = false := by simp; omega
    clear h
    go_enter Try.func5, Try.ntmps5
    go_wp2_with fail
    refine (fits_c i _).mono ?_
    rintro e w3 ⟨rfl, rfl⟩
    rw [hd]
    go_wp2_with fail
    go_ret
    exact ⟨rfl, Kept.refl _ _⟩

open Go.ChangeShapes Go.WideShapes Go.ChangeAt Go.Joins

set_option maxRecDepth 100000 in
theorem fnNew_lifted (os : Os) (started : os.Started) (H : Type) (enc : TypeId × Value → H) :
    ReturnsInHanded {} Try.checked os 5 .any (Rows.fnNewSpec.pre6 enc Try.prog Try.f5 Rows.fnNewRow.domain false) (Rows.fnNewSpec.post enc Try.prog Try.f5 false true false false) := by
  refine returnsInHanded_of_change (C := Try.checked) Try.own started (by kernel_rfl) Try.func5
    (ChangeSpec.witness6 (enc := enc) (C := Try.checked) false ⟨#[], #[.int .i64 0], []⟩ 8 (by kernel_rfl) (by kernel_rfl) (by kernel_rfl) (by kernel_rfl)) ?_
  intro W base args ds gs before hval0 hW _ _
  have hval : ∀ (j : Nat) t v, Try.f5.params[j]? = some t → args[j]? = some v → Value.okWide Try.prog W .any base t v := hval0
  have hW' := hW
  obtain ⟨p0, q, hA0, hV, rfl, _, _⟩ := hW
  have hA : DataW.TrodAll enc Try.prog W 0 (fun _ => true) true Try.f5.params.toList args.toList ds p0 := hA0
  rw [Try.params5] at hA hval
  obtain ⟨v0, d0, rfl, rfl, h0⟩ := trodAll_one hA
  clear hA
  obtain ⟨rfl, rfl⟩ := trodVars_none hV
  obtain ⟨i, rfl, rfl, rfl, wi0⟩ := open_int Try.underlying3 (hval 0 3 v0 rfl rfl) h0
  clear hA0 hval0
  simp only [List.append_nil] at hW'
  refine (fnNew_c i W).mono fun e W' ⟨he, hk⟩ => ?_
  subst he
  have hb := hk.below
  refine ⟨_, rfl, _, _, _, [], [], [], hW', ?_, ?_, rfl, hb.frame _, fun h => by cases h⟩
  · exact trodAll_mk1 (shut_bool Try.underlying4 true)
  · exact trodAll_mk1 (shut_int Try.underlying3 wi0)

theorem fnNew_holds : Rows.FnNewSaid :=
  OpenClaim.holds_of_wide 5 Try.f5 rfl rfl rfl rfl rfl rfl rfl ⟨rfl, rfl, rfl, rfl, rfl⟩ rfl rfl rfl rfl rfl (by kernel_rfl) Try.func5 (by kernel_rfl)
    (of_decide_eq_true (by kernel_rfl)) (by unfold Func.isWrapper; first | (rw [if_pos (by decide +kernel)]; kernel_rfl) | (rw [if_neg (by decide +kernel)]; exact ⟨rfl, rfl⟩))
    (fun os started H enc _ => fnNew_lifted os started H enc)

end Go.Proofs.Ytfkgljohmgeocaa

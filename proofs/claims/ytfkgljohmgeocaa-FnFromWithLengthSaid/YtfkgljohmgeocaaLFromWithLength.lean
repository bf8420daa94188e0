/-
  laws.FnFromWithLength: for every input.
-/
import Derived.Test.YtfkgljohmgeocaaIFrom
import Derived.Test.YtfkgljohmgeocaaAlike
import Derived.Test.YtfkgljohmgeocaaRow
namespace Go.Proofs.Ytfkgljohmgeocaa
set_option linter.unusedSimpArgs false
set_option linter.unusedVariables false
open Go.RowKit

set_option maxHeartbeats 2000000 in
theorem fnFromWithLength_in (N : Nat) (v : Value) (l : List Nat) (w : World) (hv : U64At w v l) (hlt : ∀ x ∈ l, x < 2 ^ 64) (hlen : l.length ≤ 30) (hN1 : N ≤ 64 * l.length) (hN2 : 64 * l.length < N + 64) :
    Calls Try.prog 3 #[.int .i64 N, v] w fun e w' => e = .returned (.bool true) ∧ Kept [] w w' := by
  have hv0 := hv
  obtain ⟨ad, cp, rfl⟩ := hv.shape
  obtain ⟨m, hm⟩ : ∃ m, l.length = m := ⟨_, rfl⟩
  rw [hm] at hv hlen hN1 hN2 ⊢
  have HM := Lib.hid hm; clear hm
  have h1' : ¬ (2147483647 : Int) < (m : Int) := by omega
  have h2' : ¬ (30 : Int) < (m : Int) := by omega
  have h3' : ¬ (N : Int) < 0 := by omega
  have h4' : ¬ 64 * (m : Int) < (N : Int) := by omega
  have h5' : ¬ (N : Int) ≤ 64 * (m : Int) - 64 := by omega
  have hNm : m = (N + 63) / 64 := by omega
  have HNM := Lib.hid hNm; clear hNm
  obtain ⟨s, hs⟩ : ∃ s, N % 64 = s := ⟨_, rfl⟩
  have e2 : (N : Int).tmod 64 = (s : Int) := by rw [Int.tmod_eq_emod_of_nonneg (by omega)]; omega
  have e2b : (N : Int) % 64 = (s : Int) := by omega
  have hs64 : s < 64 := by omega
  have HS := Lib.hid hs; clear hs
  by_cases hs0 : s = 0
  · subst hs0
    have hz : ∀ j, N ≤ j → wbit l j = false := fun j hj => wbit_past l j (by have := HS.out; have := HM.out; omega)
    have HZ := Lib.hid hz; clear hz
    go_enter Try.func3, Try.ntmps3
    go_wp2_with fail
    refine (implFromWithLength_c N _ l _ hv (by rw [HM.out]; exact hlen) hlt (by rw [HM.out]; exact HNM.out) HZ.out).mono ?_
    rintro e w1 ⟨v1, rfl, h1i, k1⟩
    obtain ⟨ad1, cp1, rfl⟩ := h1i.shape
    go_wp2_with fail
    refine (ofWords_c N _ l _ (hv.kept k1) (by rw [HM.out]; omega) hlt (by omega)).mono ?_
    rintro e w2 ⟨s2, rfl, hs2, k2⟩
    obtain ⟨b2, c2, rfl⟩ := hs2.shape
    go_wp2_with fail
    refine (bits_c N _ _ N (wbit l) true _ (h1i.kept k2) hs2 (by omega) (fun _ => rfl)).mono ?_
    rintro e w3 ⟨rfl, k3⟩
    go_wp2_with fail
    go_ret
    exact ⟨rfl, (k1.trans0 k2).trans0 k3⟩
  · have hs1 : (0 : Int) < (s : Int) := by omega
    have hm0 : 0 < m := by have := HS.out; omega
    have hcl : ∃ b off, ad = some ⟨b, off, none⟩ ∧ w.cell? ⟨b, off + (m - 1), none⟩ = some (.int .u64 (l.getD (m - 1) 0 : Nat)) := by
      rcases hv with ⟨ad', cp', h, h'⟩ | ⟨b, off, cap, h, hc⟩
      · exfalso; have := HM.out; rw [h'] at this; simp at this; omega
      · injection h with q1 q2 q3
        exact ⟨b, off, q1, hc (m - 1) (by have := HM.out; omega)⟩
    obtain ⟨b, off, rfl, cX⟩ := hcl
    have hX := getD_lt hlt (m - 1)
    have i0 : (0 : Int) ≤ (m : Int) - 1 := by omega
    have i1 : (m : Int) - 1 < (m : Int) := by omega
    have i2 : ((m : Int) - 1).toNat = m - 1 := by omega
    have i3 : IntKind.i64.wrap ((m : Int) - 1) = (m : Int) - 1 := by rw [IntKind.wrap_i64]; omega
    by_cases hd : down s (l.getD (m - 1) 0) = 0
    · have hz : ∀ j, N ≤ j → wbit l j = false := fun j hj => by
        by_cases h : 64 * m ≤ j
        · exact wbit_past l j (by rw [HM.out]; exact h)
        · have h1 := HS.out
          have e : (down s (l.getD (m - 1) 0)).testBit (j % 64 - s) = false := by rw [hd, Nat.zero_testBit]
          rw [testBit_down, show j % 64 - s + s = j % 64 by omega] at e
          unfold wbit
          rw [show j / 64 = m - 1 by omega]; exact e
      have hq : ¬ (0 : Int) < ((l.getD (m - 1) 0 : Nat) : Int) / 2 ^ s := by rw [int_down, hd]; simp
      have HZ := Lib.hid hz; clear hz hd
      generalize l.getD (m - 1) 0 = X at *
      go_enter Try.func3, Try.ntmps3
      go_wp2_with fail
      refine (implFromWithLength_c N _ l _ hv (by rw [HM.out]; exact hlen) hlt (by rw [HM.out]; exact HNM.out) HZ.out).mono ?_
      rintro e w1 ⟨v1, rfl, h1i, k1⟩
      obtain ⟨ad1, cp1, rfl⟩ := h1i.shape
      go_wp2_with fail
      refine (ofWords_c N _ l _ (hv.kept k1) (by rw [HM.out]; omega) hlt (by omega)).mono ?_
      rintro e w2 ⟨s2, rfl, hs2, k2⟩
      obtain ⟨b2, c2, rfl⟩ := hs2.shape
      go_wp2_with fail
      refine (bits_c N _ _ N (wbit l) true _ (h1i.kept k2) hs2 (by omega) (fun _ => rfl)).mono ?_
      rintro e w3 ⟨rfl, k3⟩
      go_wp2_with fail
      go_ret
      exact ⟨rfl, (k1.trans0 k2).trans0 k3⟩
    · have hq : (0 : Int) < ((l.getD (m - 1) 0 : Nat) : Int) / 2 ^ s := by rw [int_down]; omega
      clear hd
      generalize l.getD (m - 1) 0 = X at *
      go_enter Try.func3, Try.ntmps3
      go_wp2_with fail
      go_ret
      exact ⟨rfl, Kept.refl _ _⟩

set_option maxHeartbeats 2000000 in
theorem fnFromWithLength_c (i : Int) (v : Value) (l : List Nat) (w : World) (hv : U64At w v l) (hlt : ∀ x ∈ l, x < 2 ^ 64) (hlen : l.length ≤ 9223372036854775807) (hi1 : -9223372036854775808 ≤ i) (hi2 : i ≤ 9223372036854775807) :
    Calls Try.prog 3 #[.int .i64 i, v] w fun e w' => e = .returned (.bool true) ∧ Kept [] w w' := by
  by_cases hg : l.length ≤ 30 ∧ 0 ≤ i ∧ i ≤ 64 * (l.length : Int) ∧ 64 * (l.length : Int) - 64 < i
  · obtain ⟨g1, g2, g3, g4⟩ := hg
    obtain ⟨N, rfl⟩ := Int.eq_ofNat_of_zero_le g2
    exact fnFromWithLength_in N v l w hv hlt g1 (by omega) (by omega)
  · obtain ⟨ad, cp, rfl⟩ := hv.shape
    clear hv hlt
    generalize l.length = m at *
    by_cases h1 : m ≤ 2147483647
    · have h1' : ¬ (2147483647 : Int) < (m : Int) := by omega
      by_cases h2 : m ≤ 30
      · have h2' : ¬ (30 : Int) < (m : Int) := by omega
        by_cases h3 : i < 0
        · clear hg
          go_enter Try.func3, Try.ntmps3
          go_wp2_with fail
          go_ret
          exact ⟨rfl, Kept.refl _ _⟩
        · by_cases h4 : 64 * (m : Int) < i
          · clear hg
            go_enter Try.func3, Try.ntmps3
            go_wp2_with fail
            go_ret
            exact ⟨rfl, Kept.refl _ _⟩
          · have h5 : i ≤ 64 * (m : Int) - 64 := by omega
            clear hg
            go_enter Try.func3, Try.ntmps3
            go_wp2_with fail
            go_ret
            exact ⟨rfl, Kept.refl _ _⟩
      · have h2' : (30 : Int) < (m : Int) := by omega
        clear hg
        go_enter Try.func3, Try.ntmps3
        go_wp2_with fail
        go_ret
        exact ⟨rfl, Kept.refl _ _⟩
    · have h1' : (2147483647 : Int) < (m : Int) := by omega
      clear hg
      go_enter Try.func3, Try.ntmps3
      go_wp2_with fail
      go_ret
      exact ⟨rfl, Kept.refl _ _⟩

theorem int_lo {z : Int} (h : (Lit.int .i64 z).wf = true) : -9223372036854775808 ≤ z := by
  simp only [Lit.wf, Bool.and_eq_true, decide_eq_true_eq] at h
  have h5 : IntKind.i64.min = -9223372036854775808 := rfl
  omega
theorem int_hi {z : Int} (h : (Lit.int .i64 z).wf = true) : z ≤ 9223372036854775807 := by
  simp only [Lit.wf, Bool.and_eq_true, decide_eq_true_eq] at h
  have h6 : IntKind.i64.max = 9223372036854775807 := rfl
  omega
open Go.ChangeShapes Go.WideShapes Go.ChangeAt Go.Joins

set_option maxRecDepth 100000 in
theorem fnFromWithLength_lifted (os : Os) (started : os.Started) (H : Type) (enc : TypeId × Value → H) :
    ReturnsInHanded {} Try.checked os 3 .any (Rows.fnFromWithLengthSpec.pre6 enc Try.prog Try.f3 Rows.fnFromWithLengthRow.domain false) (Rows.fnFromWithLengthSpec.post enc Try.prog Try.f3 false true false false) := by
  refine returnsInHanded_of_change (C := Try.checked) Try.own started (by kernel_rfl) Try.func3
    (ChangeSpec.witness6 (enc := enc) (C := Try.checked) false ⟨#[], #[.int .i64 0, .slice none 0 0], []⟩ 8 (by kernel_rfl) (by kernel_rfl) (by kernel_rfl) (by kernel_rfl)) ?_
  intro W base args ds gs before hval0 hW _ _
  have hval : ∀ (j : Nat) t v, Try.f3.params[j]? = some t → args[j]? = some v → Value.okWide Try.prog W .any base t v := hval0
  have hW' := hW
  obtain ⟨p, q, hA0, hV, rfl, _, _⟩ := hW
  have hA : DataW.TrodAll enc Try.prog W 0 (fun _ => true) true Try.f3.params.toList args.toList ds p := hA0
  rw [Try.params3] at hA hval
  obtain ⟨v0, v1, d0, d1, p0, p1, rfl, rfl, rfl, h0, h1⟩ := trodAll_two hA
  obtain ⟨rfl, rfl⟩ := trodVars_none hV
  obtain ⟨l1, hu1, hul1, hun1⟩ := words_read (hval 1 22 v1 rfl rfl) h1
  obtain ⟨i0, rfl, rfl, rfl, wi0⟩ := open_int Try.underlying3 (hval 0 3 v0 rfl rfl) h0
  clear hA0 hval0
  simp only [List.append_nil] at hW'
  have hlt1 : ∀ x ∈ p1, x.block < W.heap.size := fun x hx => by simpa using hW'.lt x (by simp [hx])
  refine (fnFromWithLength_c i0 v1 l1 W hu1 hul1 hun1 (int_lo wi0) (int_hi wi0)).mono fun e W' ⟨he, hk⟩ => ?_
  subst he
  have hb := hk.below
  refine ⟨_, rfl, _, _, _, [], [] ++ p1, [], hW', ?_, ?_, rfl, hb.frame _, fun h => by cases h⟩
  · exact trodAll_mk1 (shut_bool Try.underlying4 true)
  · exact trodAll_mk2 (shut_int Try.underlying3 wi0) (Below.trod Try.laidOut (by kernel_rfl) (of_decide_eq_true (by kernel_rfl)) h1 hb hlt1)

theorem fnFromWithLength_holds : Rows.FnFromWithLengthSaid :=
  OpenClaim.holds_of_wide 3 Try.f3 rfl rfl rfl rfl rfl rfl rfl ⟨rfl, rfl, rfl, rfl, rfl⟩ rfl rfl rfl rfl rfl (by kernel_rfl) Try.func3 (by kernel_rfl)
    (of_decide_eq_true (by kernel_rfl)) (by unfold Func.isWrapper; first | (rw [if_pos (by decide +kernel)]; kernel_rfl) | (rw [if_neg (by decide +kernel)]; exact ⟨rfl, rfl⟩))
    (fun os started H enc _ => fnFromWithLength_lifted os started H enc)

end Go.Proofs.Ytfkgljohmgeocaa

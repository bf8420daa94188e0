/-
  laws.FnFrom: for every input.
-/
import Derived.Test.YtfkgljohmgeocaaIFrom
import Derived.Test.YtfkgljohmgeocaaAlike
import Derived.Test.YtfkgljohmgeocaaRow
namespace Go.Proofs.Ytfkgljohmgeocaa
set_option linter.unusedSimpArgs false
set_option linter.unusedVariables false
open Go.RowKit

set_option maxHeartbeats 2000000 in
theorem fnFrom_c (v : Value) (l : List Nat) (w : World) (hv : U64At w v l) (hlt : ∀ x ∈ l, x < 2 ^ 64) (hlen : l.length ≤ 9223372036854775807) :
    Calls Try.prog 4 #[v] w fun e w' => e = .returned (.bool true) ∧ Kept [] w w' := by
  obtain ⟨ad, cp, rfl⟩ := hv.shape
  obtain ⟨m, hm⟩ : ∃ m, l.length = m := ⟨_, rfl⟩
  rw [hm] at hv hlen ⊢
  have HM := Lib.hid hm; clear hm
  by_cases h1 : m ≤ 2147483647
  · by_cases h2 : m ≤ 30
    · have h1' : ¬ (2147483647 : Int) < (m : Int) := by omega
      have h2' : ¬ (30 : Int) < (m : Int) := by omega
      obtain ⟨N, hN⟩ : ∃ N, 64 * m = N := ⟨_, rfl⟩
      have e1 : 64 * (m : Int) = (N : Int) := by omega
      have hN2 : N ≤ 2000 := by omega
      have HN := Lib.hid hN; clear hN
      go_enter Try.func4, Try.ntmps4
      go_wp2_with fail
      refine (implFrom_c N _ l _ hv (by rw [HM.out]; exact h2) hlt (by rw [HM.out]; exact HN.out)).mono ?_
      rintro e w1 ⟨v1, rfl, h1i, k1⟩
      obtain ⟨ad1, cp1, rfl⟩ := h1i.shape
      go_wp2_with fail
      refine (ofWords_c N _ l _ (hv.kept k1) (by rw [HM.out]; omega) hlt (by omega)).mono ?_
      rintro e w2 ⟨s2, rfl, hs2, k2⟩
      obtain ⟨b2, c2, rfl⟩ := hs2.shape
      go_wp2_with fail
      refine (bits_c N _ _ N (wbit l) true _ (h1i.kept k2) hs2 (by omega) (fun _ => rfl)).mono ?_
      rintro e w3 ⟨rfl, k3⟩
      go_wp2_with fail
      go_ret
      exact ⟨rfl, (k1.trans0 k2).trans0 k3⟩
    · have h1' : ¬ (2147483647 : Int) < (m : Int) := by omega
      have h2' : (30 : Int) < (m : Int) := by omega
      go_enter Try.func4, Try.ntmps4
      go_wp2_with fail
      go_ret
      exact ⟨rfl, Kept.refl _ _⟩
  · have h1' : (2147483647 : Int) < (m : Int) := by omega
    go_enter Try.func4, Try.ntmps4
    go_wp2_with fail
    go_ret
    exact ⟨rfl, Kept.refl _ _⟩

open Go.ChangeShapes Go.WideShapes Go.ChangeAt Go.Joins

set_option maxRecDepth 100000 in
theorem fnFrom_lifted (os : Os) (started : os.Started) (H : Type) (enc : TypeId × Value → H) :
    ReturnsInHanded {} Try.checked os 4 .any (Rows.fnFromSpec.pre6 enc Try.prog Try.f4 Rows.fnFromRow.domain false) (Rows.fnFromSpec.post enc Try.prog Try.f4 false true false false) := by
  refine returnsInHanded_of_change (C := Try.checked) Try.own started (by kernel_rfl) Try.func4
    (ChangeSpec.witness6 (enc := enc) (C := Try.checked) false ⟨#[], #[.slice none 0 0], []⟩ 8 (by kernel_rfl) (by kernel_rfl) (by kernel_rfl) (by kernel_rfl)) ?_
  intro W base args ds gs before hval0 hW _ _
  have hval : ∀ (j : Nat) t v, Try.f4.params[j]? = some t → args[j]? = some v → Value.okWide Try.prog W .any base t v := hval0
  have hW' := hW
  obtain ⟨p0, q, hA0, hV, rfl, _, _⟩ := hW
  have hA : DataW.TrodAll enc Try.prog W 0 (fun _ => true) true Try.f4.params.toList args.toList ds p0 := hA0
  rw [Try.params4] at hA hval
  obtain ⟨v0, d0, rfl, rfl, h0⟩ := trodAll_one hA
  obtain ⟨rfl, rfl⟩ := trodVars_none hV
  obtain ⟨l0, hu0, hul0, hun0⟩ := words_read (hval 0 22 v0 rfl rfl) h0
  clear hA0 hval0
  simp only [List.append_nil] at hW'
  have hlt0 : ∀ x ∈ p0, x.block < W.heap.size := fun x hx => by simpa using hW'.lt x (by simp [hx])
  refine (fnFrom_c v0 l0 W hu0 hul0 hun0).mono fun e W' ⟨he, hk⟩ => ?_
  subst he
  have hb := hk.below
  refine ⟨_, rfl, _, _, _, [], p0, [], hW', ?_, ?_, rfl, hb.frame _, fun h => by cases h⟩
  · exact trodAll_mk1 (shut_bool Try.underlying4 true)
  · exact trodAll_mk1 (Below.trod Try.laidOut (by kernel_rfl) (of_decide_eq_true (by kernel_rfl)) h0 hb hlt0)

theorem fnFrom_holds : Rows.FnFromSaid :=
  OpenClaim.holds_of_wide 4 Try.f4 rfl rfl rfl rfl rfl rfl rfl ⟨rfl, rfl, rfl, rfl, rfl⟩ rfl rfl rfl rfl rfl (by kernel_rfl) Try.func4 (by kernel_rfl)
    (of_decide_eq_true (by kernel_rfl)) (by unfold Func.isWrapper; first | (rw [if_pos (by decide +kernel)]; kernel_rfl) | (rw [if_neg (by decide +kernel)]; exact ⟨rfl, rfl⟩))
    (fun os started H enc _ => fnFrom_lifted os started H enc)

end Go.Proofs.Ytfkgljohmgeocaa

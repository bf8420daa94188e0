/-
  impl.ShiftRight.
-/
import Derived.Test.YtiaghdnhapiioaaShRa
import Derived.Test.YtiaghdnhapiioaaRow
namespace Go.Proofs.Ytiaghdnhapiioaa
set_option linter.unusedSimpArgs false
set_option linter.unusedVariables false
open Go.RowKit

set_option maxHeartbeats 1000000 in
theorem implShiftRight_c (L : Nat) (i : Nat) (v : Value) (on : List Nat) (w : World) (hv : IntsAt w v on) (hL : L ≤ 9000) (hlen : on.length ≤ 1000000) (hon : ∀ x ∈ on, x < 9000) (hi : i ≤ 2500) :
    Calls Try.prog 26 #[.agg #[.int .i64 L, v], .int .i64 i] w fun e w' => ∃ (M : Nat) (v' : Value), e = .returned (.agg #[.int .i64 M, v']) ∧ (M = lenOf L on) ∧ M ≤ 20000 ∧
      IntsAt w' v' (onL (lenOf L on) (fun j => decide (j + i < lenOf L on) && memOf on (j + i))) ∧ Kept [] w w' := by
  have k0 : Kept [] w ((w.alloc (.cells #[.int .i64 L, v] 24)).alloc (.cells #[.int .i64 0, .slice none 0 0] 24)) := ((Kept.refl _ _).alloc _).alloc _
  have g0 : ((w.alloc (.cells #[.int .i64 L, v] 24)).alloc (.cells #[.int .i64 0, .slice none 0 0] 24)).heap[w.heap.size + 1]? = some (.cells #[.int .i64 0, .slice none 0 0] 24 (0, 0)) := by
    have := heap_alloc_new (w.alloc (.cells #[.int .i64 L, v] 24)) (.cells #[.int .i64 0, .slice none 0 0] 24)
    simpa using this
  have hln := lenOf_le L on 9000 hL hon
  go_enter Try.func26, Try.ntmps26
  go_wp2_with fail
  refine (build_c L v on _ (hv.kept k0) (by omega) (fun x hx => by have := hon x hx; omega) hlen).mono ?_
  rintro e w1 ⟨b, g, rfl, hb, n1, n2, k1⟩
  have s0 : w.heap.size + 2 ≤ b ∧ w.heap.size + 2 ≤ g := by simp at n1 n2; omega
  go_wp2_with fail
  refine (shiftRight_c b g _ i _ w1 hb (by omega) hi).mono ?_
  rintro e w2 ⟨rfl, hb2, k2⟩
  obtain ⟨M, hM⟩ : ∃ M, lenOf L on = M := ⟨_, rfl⟩
  have hMb : M ≤ 20000 := by omega
  rw [hM] at hb2
  have hPM : Hid (M = lenOf L on) := hM.symm
  clear hM
  obtain ⟨g', hgg⟩ : ∃ g', g = g' := ⟨g, rfl⟩
  have hb2 : BSet w2 b g' M _ := hgg ▸ hb2
  go_wp2_with fail
  refine (told_c b g' _ _ w2 hb2 hMb).mono ?_
  rintro e w3 ⟨v3, rfl, hown, k3⟩
  have gR := k3.heap (by simp) (k2.heap (by simp; omega) (k1.heap (by simp) g0))
  have kA : Kept [] w w3 := ((k0.trans0 k1).trans k2 (fun j hj => by simp at hj; right; omega)).trans0 k3
  obtain ⟨ad, ln, cp, rfl⟩ := slice_of_owns hown
  obtain ⟨c0, c1, z0, z1, e0, e1⟩ := box2 gR (.int .i64 M) (.slice ad ln cp)
  clear gR g0 hb hb2
  go_wp2_with fail
  refine bodyPost_ret (v := .agg #[.int .i64 M, .slice ad ln cp]) (by simp [results, Try.results26, go_sem, e0, e1]) rfl ⟨M, _, rfl, hPM.out, hMb, ?_, (kA.setCell (by right; simp) _).setCell (by right; simp) _⟩
  have hs2 := k2.size; have hs1 := k1.size
  simp at hs1
  have h3 := IntsAt.of_owns (ownsRow_setCell_below (a := ⟨w.heap.size + 1, 1, none⟩) (ownsRow_setCell_below (a := ⟨w.heap.size + 1, 0, none⟩) hown (by show w.heap.size + 1 < w2.heap.size + 2; omega) (.int .i64 M)) (by show w.heap.size + 1 < w2.heap.size + 2; omega) (.slice ad ln cp))
  have hE : ∀ F, onL M F = onL (lenOf L on) F := fun F => by rw [hPM.out]
  rw [hE] at h3
  have hE2 : (fun j => decide (j + i < M) && memOf on (j + i)) = (fun j => decide (j + i < lenOf L on) && memOf on (j + i)) := by rw [hPM.out]
  rw [hE2] at h3
  exact h3

end Go.Proofs.Ytiaghdnhapiioaa

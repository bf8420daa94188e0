/-
  impl.CloneApart.
-/
import Derived.Test.YtfdddnpmgaoddaaClone
import Derived.Test.YtfdddnpmgaoddaaOps
import Derived.Test.YtfdddnpmgaoddaaRow
namespace Go.Proofs.Ytfdddnpmgaoddaa
set_option linter.unusedSimpArgs false
set_option linter.unusedVariables false
open Go.RowKit

theorem owns_kept {w w' : World} {B : Nat} {e : TypeId} {z n : Nat} {v : Value} {xs : List Value} (h : w.ownsRow B e z v n xs) (k : Kept [] w w') : w'.ownsRow B e z v n xs := by
  obtain ⟨h1, h2⟩ := h
  refine ⟨h1, ?_⟩
  rcases h2 with h2 | ⟨g, cap, cur, hv, hg, hh, r⟩
  · exact Or.inl h2
  · exact Or.inr ⟨g, cap, cur, hv, hg, k.heap (by simp) hh, r⟩
set_option maxHeartbeats 2000000 in
theorem implCloneApart_c (L i : Nat) (v : Value) (on : List Nat) (w : World) (hv : IntsAt w v on) (hL : L ≤ 9000) (hlen : on.length ≤ 1000000) (hon : ∀ x ∈ on, x < 9000) (hi : i ≤ 2500) :
    Calls Try.prog 32 #[.agg #[.int .i64 L, v], .int .i64 i] w fun e w' => ∃ (M1 M2 : Nat) (v1 v2 : Value), e = .returned (.tuple #[.agg #[.int .i64 M1, v1], .agg #[.int .i64 M2, v2]]) ∧ M1 = lenOf L on ∧ M2 = max (lenOf L on) (i + 1) ∧
      IntsAt w' v1 (onL (lenOf L on) (memOf on)) ∧ IntsAt w' v2 (onL (max (lenOf L on) (i + 1)) (fun j => (j == i) ^^ (decide (j < lenOf L on) && memOf on j))) ∧ Kept [] w w' := by
  obtain ⟨ad0, cp0, rfl⟩ := hv.shape
  have hln := lenOf_le L on 9000 hL hon
  obtain ⟨W, hW⟩ : ∃ W, (((w.alloc (.cells #[.int .i64 L, .slice ad0 on.length cp0] 24)).alloc (.cells #[.int .i64 0, .slice none 0 0] 24)).alloc (.cells #[.int .i64 0, .slice none 0 0] 24)) = W := ⟨_, rfl⟩
  have k0 : Kept [] w W := by rw [← hW]; exact (((Kept.refl _ _).alloc _).alloc _).alloc _
  have gR : W.heap[w.heap.size + 1]? = some (.cells #[.int .i64 0, .slice none 0 0] 24 (0, 0)) := by
    rw [← hW]
    have := alloc_heap_old (heap_alloc_new (w.alloc (.cells #[.int .i64 L, .slice ad0 on.length cp0] 24)) (.cells #[.int .i64 0, .slice none 0 0] 24)) (.cells #[.int .i64 0, .slice none 0 0] 24)
    simpa using this
  have gQ : W.heap[w.heap.size + 1 + 1]? = some (.cells #[.int .i64 0, .slice none 0 0] 24 (0, 0)) := by
    rw [← hW]
    have := heap_alloc_new ((w.alloc (.cells #[.int .i64 L, .slice ad0 on.length cp0] 24)).alloc (.cells #[.int .i64 0, .slice none 0 0] 24)) (.cells #[.int .i64 0, .slice none 0 0] 24)
    simpa using this
  have HW := Lib.hid hW; clear hW
  have hWs := lt_of_heap gQ
  go_enter Try.func32, Try.ntmps32
  go_wp2_with fail
  rw [HW.out]
  refine (build_c L _ on W (hv.kept k0) (by omega) (fun x hx => by have := hon x hx; omega) (by omega)).mono ?_
  rintro e w1 ⟨b, g, rfl, hb, n1, n2, k1⟩
  have l1 := hb.lt
  go_wp2_with fail
  refine (clone_c b g _ _ w1 hb (by omega)).mono ?_
  rintro e w2 ⟨b', g', rfl, hb2, n3, n4, k2⟩
  go_wp2_with fail
  refine (flip_c b' g' _ i _ w2 hb2 (by omega) (by omega)).mono ?_
  rintro e w3 ⟨rfl, g3, hb3, hg3, k3⟩
  have hb1 := (hb.kept k2 (by simp) (by simp)).kept k3 (by simp; omega) (by simp; omega)
  obtain ⟨M1, hM1⟩ : ∃ M, lenOf L on = M := ⟨_, rfl⟩
  obtain ⟨M2, hM2⟩ : ∃ M, max (lenOf L on) (i + 1) = M := ⟨_, rfl⟩
  have hMb : M1 ≤ 9000 ∧ M2 ≤ 9001 := by omega
  rw [hM1] at hb1
  rw [hM2] at hb3
  have HM1 := Lib.hid hM1; have HM2 := Lib.hid hM2; clear hM1 hM2
  go_wp2_with fail
  refine (told_c b g _ _ w3 hb1 (by omega)).mono ?_
  rintro e w4 ⟨v4, rfl, hown, k4⟩
  obtain ⟨ad, ln, cp, rfl⟩ := slice_of_owns hown
  go_wp2_with fail
  refine (told_c b' g3 _ _ w4 (hb3.kept k4 (by simp) (by simp)) (by omega)).mono ?_
  rintro e w5 ⟨v5, rfl, hown5, k5⟩
  obtain ⟨ad5, ln5, cp5, rfl⟩ := slice_of_owns hown5
  have kk : Kept [] W w5 := ((((k1.trans0 k2).trans k3 (fun x hx => by have := k1.size; have := k2.size; simp at hx; right; omega))).trans0 k4).trans0 k5
  have fR := kk.heap (by simp) gR
  have fQ := kk.heap (by simp) gQ
  have kA := k0.trans0 kk
  have hsz : W.heap.size ≤ w3.heap.size := by have := k1.size; have := k2.size; have := k3.size; omega
  have hsz4 := k4.size
  have hown' := owns_kept hown k5
  obtain ⟨u0, u1, u2, u3, u4, u5⟩ := box2 fR (.int .i64 M1) (.slice ad ln cp)
  have fR' := setCell_heap_same (o := 1) (setCell_heap_same (o := 0) fR (.int .i64 M1)) (.slice ad ln cp)
  have fQ' := setCell_heap_other (b := w.heap.size + 1) (o := 1) (setCell_heap_other (b := w.heap.size + 1) (o := 0) fQ (by omega) (.int .i64 M1)) (by omega) (.slice ad ln cp)
  obtain ⟨p0, p1, p2, p3, p4, p5⟩ := box2 fQ' (.int .i64 M2) (.slice ad5 ln5 cp5)
  have fR2 := setCell_heap_other (b := w.heap.size + 1 + 1) (o := 1) (setCell_heap_other (b := w.heap.size + 1 + 1) (o := 0) fR' (by omega) (.int .i64 M2)) (by omega) (.slice ad5 ln5 cp5)
  have r4 := (cell_of_heap (o := 0) fR2).trans rfl
  have r5 := (cell_of_heap (o := 1) fR2).trans rfl
  have z0 := (cell_of_heap (o := 0) fQ').trans rfl
  clear hb3 hb2 hb1 hb hown fR2 fR' fQ' fQ fR
  go_wp2_with fail
  refine bodyPost_ret (v := .tuple #[.agg #[.int .i64 M1, .slice ad ln cp], .agg #[.int .i64 M2, .slice ad5 ln5 cp5]]) (by simp [results, Try.results32, go_sem, r4, r5, p4, p5]) rfl ⟨M1, M2, _, _, rfl, HM1.out.symm, HM2.out.symm, ?_, ?_, (((kA.setCell (by right; simp <;> omega) _).setCell (by right; simp <;> omega) _).setCell (by right; simp <;> omega) _).setCell (by right; simp <;> omega) _⟩
  · rw [HM1.out]
    exact IntsAt.of_owns (ownsRow_setCell_below (ownsRow_setCell_below (ownsRow_setCell_below (ownsRow_setCell_below hown' (a := ⟨w.heap.size + 1, 0, none⟩) (by simp <;> omega) _) (a := ⟨w.heap.size + 1, 1, none⟩) (by simp <;> omega) _) (a := ⟨w.heap.size + 1 + 1, 0, none⟩) (by simp <;> omega) _) (a := ⟨w.heap.size + 1 + 1, 1, none⟩) (by simp <;> omega) _)
  · rw [show (fun j => (j == i) ^^ (decide (j < lenOf L on) && memOf on j)) = (fun j => (j == i) ^^ (decide (j < lenOf L on) && memOf on j)) from rfl, HM2.out]
    exact IntsAt.of_owns (ownsRow_setCell_below (ownsRow_setCell_below (ownsRow_setCell_below (ownsRow_setCell_below hown5 (a := ⟨w.heap.size + 1, 0, none⟩) (by simp <;> omega) _) (a := ⟨w.heap.size + 1, 1, none⟩) (by simp <;> omega) _) (a := ⟨w.heap.size + 1 + 1, 0, none⟩) (by simp <;> omega) _) (a := ⟨w.heap.size + 1 + 1, 1, none⟩) (by simp <;> omega) _)


end Go.Proofs.Ytfdddnpmgaoddaa

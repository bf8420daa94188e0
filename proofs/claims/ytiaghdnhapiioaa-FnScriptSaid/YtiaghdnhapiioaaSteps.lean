/-
  A list of steps that came in, read off. Under no condition.
-/
import Derived.Deep.Slices
import Derived.Test.YtiaghdnhapiioaaRow
namespace Go.Proofs.Ytiaghdnhapiioaa
set_option linter.unusedSimpArgs false
set_option linter.unusedVariables false
open Go.RowKit


open Go.ChangeShapes Go.WideShapes Go.ChangeAt Go.Joins Go.Deep
theorem Try.cellsStep : Try.prog.cellsOf 48 = 3 := by kernel_rfl
/-- A slice value reads as these steps. -/
def StepsZ (w : World) (v : Value) (l : List (Int × Int × Int)) : Prop :=
  (∃ ad cap, v = .slice ad 0 cap ∧ l = []) ∨ (∃ b off cap, v = .slice (some ⟨b, off, none⟩) l.length cap ∧ b < w.heap.size ∧ ∀ j, j < l.length →
    w.cell? ⟨b, off + j * 3, none⟩ = some (.int .i64 (l.getD j (0, 0, 0)).1) ∧ w.cell? ⟨b, off + j * 3 + 1, none⟩ = some (.int .i64 (l.getD j (0, 0, 0)).2.1) ∧ w.cell? ⟨b, off + j * 3 + 2, none⟩ = some (.int .i64 (l.getD j (0, 0, 0)).2.2))
theorem StepsZ.kept {w w' : World} {v : Value} {l : List (Int × Int × Int)} (h : StepsZ w v l) (k : Kept [] w w') : StepsZ w' v l := by
  rcases h with h | ⟨b, off, cap, rfl, hb, hc⟩
  · exact .inl h
  · exact .inr ⟨b, off, cap, rfl, Nat.lt_of_lt_of_le hb k.size, fun j hj => ⟨k.cell (by simp) (hc j hj).1, k.cell (by simp) (hc j hj).2.1, k.cell (by simp) (hc j hj).2.2⟩⟩
theorem StepsZ.shape {w : World} {v : Value} {l : List (Int × Int × Int)} (h : StepsZ w v l) : ∃ ad c, v = .slice ad l.length c := by
  rcases h with ⟨ad, cap, rfl, rfl⟩ | ⟨b, off, cap, rfl, _⟩ <;> exact ⟨_, _, rfl⟩
theorem steps_read {H : Type} {enc : TypeId × Value → H} {W : World} {base fuel : Nat} {held : Bool} {cs : Value} {x : DataW H × List MemPlace}
    (h : DataW.trod enc Try.prog W base (fun _ => true) held fuel 47 [cs] = some x) : ∃ l : List (Int × Int × Int), StepsZ W cs l ∧ l.length ≤ 9223372036854775807 := by
  rcases open_slice Try.underlying47 h with ⟨hcs, _⟩ | ⟨a, len, cap, m, n, D, Pl, hcs, _, hl, hm, hmm, _, hall⟩
  · simp at hcs
    exact ⟨[], .inl ⟨none, 0, hcs, rfl⟩, by simp⟩
  · simp at hcs
    subst hcs
    simp only [if_true] at hmm
    subst hmm
    unfold maxLen at hm
    by_cases h0 : len = 0
    · subst h0; exact ⟨[], .inl ⟨some a, m, rfl, rfl⟩, by simp⟩
    · have each : ∀ i, i < len → ∃ q : Int × Int × Int, W.cell? (a.add (i * 3)) = some (.int .i64 q.1) ∧ W.cell? (a.add (i * 3 + 1)) = some (.int .i64 q.2.1) ∧ W.cell? (a.add (i * 3 + 2)) = some (.int .i64 q.2.2) := by
        intro i hi
        obtain ⟨cs', h1, h2⟩ := hall i (by omega)
        rw [Try.cellsStep] at h1
        obtain ⟨_, hlen, hcell⟩ := World.cells?_some h1
        obtain ⟨xs, k, hk, hxy, _, hxl, hf⟩ := DataW.trod_struct Try.underlying48 h2
        match xs, hxl, cs', hlen with
        | [y0, y1, y2], _, [v0, v1, v2], _ =>
          have g0 := hf 0 _ rfl
          have g1 := hf 1 _ rfl
          have g2 := hf 2 _ rfl
          simp [Try.cellsInt] at g0 g1 g2
          obtain ⟨a0, e0, _, _⟩ := DataW.trod_int Try.underlying3 g0
          obtain ⟨a1, e1, _, _⟩ := DataW.trod_int Try.underlying3 g1
          obtain ⟨a2, e2, _, _⟩ := DataW.trod_int Try.underlying3 g2
          simp at e0 e1 e2
          subst e0; subst e1; subst e2
          have c0 := hcell 0 (by omega)
          have c1 := hcell 1 (by omega)
          have c2 := hcell 2 (by omega)
          rw [add_add] at c0 c1 c2
          exact ⟨(a0, a1, a2), by simpa using c0, by simpa using c1, by simpa using c2⟩
      obtain ⟨q, hq⟩ := choose_lt each
      obtain ⟨b, off, spot⟩ := a
      have hspot : spot = none := by simpa [Addr.add] using World.cell?_spot (hq 0 (by omega)).1
      subst hspot
      have hb : b < W.heap.size := World.block_lt_of_cell? _ _ (hq 0 (by omega)).1
      have hadd : ∀ j, (⟨b, off, none⟩ : Addr).add j = ⟨b, off + j, none⟩ := fun j => by
        unfold Addr.add; by_cases h0 : j = 0
        · subst h0; rfl
        · rw [if_neg h0]
      have hlen : ((List.range len).map q).length = len := by simp
      refine ⟨(List.range len).map q, .inr ⟨b, off, m, by rw [hlen], hb, fun j hj => ?_⟩, by omega⟩
      rw [hlen] at hj
      have hg : ((List.range len).map q).getD j (0, 0, 0) = q j := by
        rw [List.getD_eq_getElem?_getD, List.getElem?_map, List.getElem?_range hj]; rfl
      rw [hg]
      obtain ⟨h1, h2, h3⟩ := hq j hj
      rw [hadd] at h1 h2 h3
      exact ⟨h1, by rw [Nat.add_assoc]; exact h2, by rw [Nat.add_assoc]; exact h3⟩
theorem stepsArg_read {H : Type} {enc : TypeId × Value → H} {W : World} {base b0 : Nat} {held : Bool} {v : Value} {d : DataW H} {p : List MemPlace} (hv : Value.okWide Try.prog W .any b0 47 v)
    (h : DataW.Trod enc Try.prog W base (fun _ => true) held 47 v d p) : ∃ l : List (Int × Int × Int), StepsZ W v l ∧ l.length ≤ 9223372036854775807 := by
  obtain ⟨a0, len, cap, rfl⟩ := okWide_slice Try.underlying47 hv
  obtain ⟨fuel, hf⟩ := h
  exact steps_read (fuel := fuel) hf

end Go.Proofs.Ytiaghdnhapiioaa

/-
  The step from a call's contract to a given row: how the arguments read as data, under no condition.
-/
import Derived.Test.YthogmlblppcjoaaFmtOfBad
import Derived.ProofKit
import Derived.Lib.SmallJoins
namespace Go.Proofs.YthogmlblppcjoaaFmt
set_option linter.unusedSimpArgs false
set_option linter.unusedVariables false
open Go.ChangeShapes Go.WideShapes Go.ChangeAt Go.RowKit Go.Joins

theorem Tryf.own : ownKnob Tryf.prog.godebug = none := by kernel_rfl
theorem Tryf.laidOut : laidOutB Tryf.prog = true := by kernel_rfl
theorem Tryf.cellsInt : Tryf.prog.cellsOf 3 = 1 := by kernel_rfl
theorem Tryf.cellsBits : Tryf.prog.cellsOf 24 = 2 := by kernel_rfl

theorem ints_read {H : Type} {enc : TypeId × Value → H} {W : World} {base fuel : Nat} {held : Bool} {cs : Value} {x : DataW H × List MemPlace}
    (h : DataW.trod enc Tryf.prog W base (fun _ => true) held fuel 22 [cs] = some x) : ∃ zs : List Int, IntsZ W cs zs ∧ zs.length ≤ 9223372036854775807 := by
  rcases open_ints Tryf.underlying22 Tryf.underlying3 Tryf.cellsInt h with ⟨hcs, hx⟩ | ⟨a, len, cap, zs, hcs, _, hl, hm, hz, hx, hcell, hwz⟩
  · simp at hcs
    exact ⟨[], .inl ⟨none, 0, hcs, rfl⟩, by simp⟩
  · simp at hcs
    subst hcs
    simp only [if_true] at hz
    unfold maxLen at hm
    by_cases h0 : len = 0
    · subst h0; exact ⟨[], .inl ⟨some a, cap, rfl, rfl⟩, by simp⟩
    · obtain ⟨b, off, spot⟩ := a
      have hspot : spot = none := by simpa [Addr.add] using World.cell?_spot (hcell 0 (by omega))
      subst hspot
      have hb : b < W.heap.size := World.block_lt_of_cell? _ _ (hcell 0 (by omega))
      have hlen : (zs.take len).length = len := by rw [List.length_take]; omega
      refine ⟨zs.take len, .inr ⟨b, off, cap, by rw [hlen], hb, fun j hj => ?_⟩, by omega⟩
      rw [hlen] at hj
      have := hcell j (by omega)
      have e : (⟨b, off, none⟩ : Addr).add j = ⟨b, off + j, none⟩ := by
        unfold Addr.add; by_cases h0 : j = 0
        · subst h0; rfl
        · rw [if_neg h0]
      rw [e] at this
      rw [this, List.getD_eq_getElem?_getD, List.getD_eq_getElem?_getD, List.getElem?_take_of_lt hj]

/-- A told set that came in. -/
theorem bits_read {H : Type} {enc : TypeId × Value → H} {W : World} {base b0 : Nat} {held : Bool} {v : Value} {d : DataW H} {p : List MemPlace} (hv : Value.okWide Tryf.prog W .any b0 24 v)
    (h : DataW.Trod enc Tryf.prog W base (fun _ => true) held 24 v d p) : ∃ (L : Int) (s : Value) (zs : List Int), v = .agg #[.int .i64 L, s] ∧ IntsZ W s zs ∧ zs.length ≤ 9223372036854775807 ∧ -9223372036854775808 ≤ L ∧ L ≤ 9223372036854775807 := by
  obtain ⟨c0, c1, y0, y1, m, rfl, rfl, rfl, hy0, hy1⟩ := open_agg2 Tryf.underlying24 (by kernel_rfl) Tryf.cellsBits hv h
  obtain ⟨a, e0, h2, wa⟩ := DataW.trod_int Tryf.underlying3 hy0
  simp at e0
  subst e0
  obtain ⟨zs, h3, h4⟩ := ints_read hy1
  have h5 : IntKind.i64.min = -9223372036854775808 := rfl
  have h6 : IntKind.i64.max = 9223372036854775807 := rfl
  simp only [Lit.wf, Bool.and_eq_true, decide_eq_true_eq] at wa
  exact ⟨a, c1, zs, rfl, h3, h4, by omega, by omega⟩

end Go.Proofs.YthogmlblppcjoaaFmt

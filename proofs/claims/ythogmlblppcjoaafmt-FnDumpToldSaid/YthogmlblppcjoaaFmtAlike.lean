/-
  The contracts of laws' alike and bits: a told set that has the reference's bits passes.
-/
import Derived.Test.YthogmlblppcjoaaFmtOfBad
import Derived.Deep.RegionWith
namespace Go.Proofs.YthogmlblppcjoaaFmt
set_option linter.unusedSimpArgs false
set_option linter.unusedVariables false
open Go.RowKit

/-- One operation of a drawn region taken first, its slot written out. -/
theorem takeD {P : Program} {ops : Array Oper} {Q : Exit → Act → World → Prop} {md : Region.Mode} {S : World → Prop} {fuel : Nat} {listed : Array Bool} {tmps : Array Value} {ds : List Deferred} {w : World} (i d : Nat) {oi : Oper} {v : Value} (hi : ops[i]? = some oi) (hd : oi.dst = some d)
    (hs : Region.noSelect ops = true) (hf : Region.free md ops listed i = true) (hr : (Region.ready md ops listed).contains i = true)
    (hQ : ∀ c a w, Q (.panic c) (a.put (some d) v) w → Q (.panic c) a w) (hy : YieldsIf P ops S oi v ⟨tmps, ds⟩) (hS : S w)
    (h : wpAnyH P md ops Q S fuel (listed.setIfInBounds i true) ⟨tmps.setIfInBounds d v, ds⟩ w) : wpAnyH P md ops Q S (fuel + 1) listed ⟨tmps, ds⟩ w :=
  wpAnyH_take hi hs hf hr (by rw [hd]; exact hQ) hy hS (by rw [hd]; exact h)

theorem SpecSet.shape {w : World} {s : Value} {n : Nat} {f : Nat → Bool} {t : Bool} (h : SpecSet w s n f t) : ∃ b c, s = .agg #[.slice (some ⟨b, 0, none⟩) n c, .bool t] := by
  obtain ⟨b, c, h1, _⟩ := h; exact ⟨b, c, h1⟩
theorem IntsAt.shape {w : World} {v : Value} {l : List Nat} (h : IntsAt w v l) : ∃ ad c, v = .slice ad l.length c := by
  rcases h with ⟨ad, cap, rfl, rfl⟩ | ⟨b, off, cap, rfl, _⟩ <;> exact ⟨_, _, rfl⟩


end Go.Proofs.YthogmlblppcjoaaFmt

/-
  Numbers that read off a row of their own; a block laid for a set that is told; a region's states. Under no condition.
-/
import Derived.Test.YtafbdkcbgjpolaaDoorAlike
namespace Go.Proofs.YtafbdkcbgjpolaaDoor
set_option linter.unusedSimpArgs false
set_option linter.unusedVariables false
set_option maxRecDepth 100000
open Go.RowKit


/-- A slice value reads as these numbers, and its block is one of numbers. -/
def IntsT (w : World) (v : Value) (l : List Nat) : Prop := IntsAt w v l ∧ ∀ a n c, v = .slice (some a) n c → ∃ cs z, w.heap[a.block]? = some (.cells cs 3 z)
theorem IntsT.kept {w w' : World} {v : Value} {l : List Nat} (h : IntsT w v l) (k : Kept [] w w') : IntsT w' v l :=
  ⟨h.1.kept k, fun a n c e => by obtain ⟨cs, z, h1⟩ := h.2 a n c e; exact ⟨cs, z, k.heap (by simp) h1⟩⟩
theorem IntsT.of_owns {w : World} {B : Nat} {v : Value} {l : List Nat} (h : w.ownsRow B 3 1 v l.length (intsOf l)) : IntsT w v l := by
  refine ⟨IntsAt.of_owns h, ?_⟩
  rintro a n c rfl
  obtain ⟨_, hcase⟩ := h
  rcases hcase with ⟨h1, _⟩ | ⟨g, cap', cur, h1, h2⟩
  · cases h1
  · cases h1
    exact ⟨_, _, h2.2.1⟩
/-- The block of a set that is told, as it is laid. -/
def Blk (w : World) (p : Nat) : Prop := w.heap[p]? = some (.cells #[.int .i64 0, .slice none 0 0] 24 (0, 0))
theorem Blk.kept {w w' : World} {p : Nat} (h : Blk w p) (k : Kept [] w w') : Blk w' p := k.heap (by simp) h
theorem IntsT.other {w : World} {v : Value} {l : List Nat} {p o : Nat} {cs : Array Value} {z : Nat × Nat} (h : IntsT w v l) (hb : w.heap[p]? = some (.cells cs 24 z)) (u : Value) : IntsT (w.setCell ⟨p, o, none⟩ u) v l := by
  have hne : ∀ a n c, v = .slice (some a) n c → a.block ≠ p := fun a n c e he => by
    obtain ⟨cs', z', h1⟩ := h.2 a n c e
    rw [he, hb] at h1
    injection h1 with h1
    injection h1 with _ h2
    exact absurd h2 (by decide)
  refine ⟨?_, fun a n c e => by obtain ⟨cs', z', h1⟩ := h.2 a n c e; exact ⟨cs', z', setCell_heap_other h1 (hne a n c e) u⟩⟩
  rcases h.1 with h1 | ⟨b, off, cap, rfl, hc⟩
  · exact .inl h1
  · refine .inr ⟨b, off, cap, rfl, fun j hj => ?_⟩
    rw [World.cell?_setCell_other _ _ _ _ (by intro e; injection e with e1 e2 e3; exact hne ⟨b, off, none⟩ _ _ rfl e1.symm)]
    exact hc j hj
theorem IntsT.shape {w : World} {v : Value} {l : List Nat} (h : IntsT w v l) : ∃ ad c, v = .slice ad l.length c := h.1.shape
theorem wpAnyH_mask {P : Program} {ops : Array Oper} {Q : Exit → Act → World → Prop} {md : Region.Mode} {S : World → Prop} {fuel : Nat} {l l' : Array Bool} {a : Act} {w : World} (h : l = l') (hg : wpAnyH P md ops Q S fuel l' a w) : wpAnyH P md ops Q S fuel l a w := h ▸ hg
theorem region_states {P : Program} {ops : Array Oper} {Q : Exit → Act → World → Prop} {md : Region.Mode} {S : World → Prop} {fuel : Nat} {l : Array Bool} {t : Array Value} {ds : List Deferred} {w : World}
    (h : ∀ (G : Nat → Array Bool → Array Value → World → Prop), (fun n l t w => wpAnyH P md ops Q S n l ⟨t, ds⟩ w) = G → ∀ T, t = T → G fuel l T w) : wpAnyH P md ops Q S fuel l ⟨t, ds⟩ w := h _ rfl _ rfl

end Go.Proofs.YtafbdkcbgjpolaaDoor

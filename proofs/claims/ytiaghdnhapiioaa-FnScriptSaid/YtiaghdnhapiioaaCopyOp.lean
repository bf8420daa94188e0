/-
  The builtin copy, of words, as one operation of a region that draws its order.
-/
import Derived.Test.YtiaghdnhapiioaaAlike
namespace Go.Proofs.Ytiaghdnhapiioaa
set_option linter.unusedSimpArgs false
set_option linter.unusedVariables false
open Go.RowKit

theorem wanted_plain {o : Oper} {y : Nat → Option Bool} {X Y : Prop} (hg : o.guard = none) (h : X) : if Region.wanted o y = true then X else Y := by
  simp only [Region.wanted, hg, if_true]; exact h

theorem oper_copyU {P : Program} {w : World} {o : Oper} {a : Act} {K : Act → World → Prop} {Q : Exit → Act → World → Prop} (d s : Operand) (t : TypeId)
    (ho : o.op = .call { callee := .builtin .copy, args := #[d, s], argTypes := #[t, t] }) (hu : P.underlying t = some (.slice 72)) (hsz : (P.info? 72).map (·.size) = some 1)
    (gd od dLen dCap gs os sLen sCap : Nat) (hd : a.eval d = .slice (some ⟨gd, od, none⟩) dLen dCap) (hs : a.eval s = .slice (some ⟨gs, os, none⟩) sLen sCap)
    (wd : List Nat) (cd : Nat) (hrow : URow w gd wd cd) (cs : List Nat) (hn : cs.length = Nat.min sLen dLen) (hsrc : ∀ j, j < cs.length → w.cell? ⟨gs, os + j, none⟩ = some (.int .u64 (cs.getD j 0 : Nat)))
    (hfit : od + cs.length ≤ wd.length)
    (h : ∀ w', URow w' gd (splice wd od cs) cd → Kept [gd] w w' → w'.heap.size = w.heap.size → K (a.put o.dst (goInt cs.length)) w') : Oper.wp P o a w K Q := by
  obtain ⟨cur, h1, h2, h3, h4⟩ := hrow
  have hcl : cur.toList.length = cd := by rw [Array.length_toList]; exact h2
  have hlen : (u64s cs).length = cs.length := length_u64s cs
  have hrun := run_copy_row (P := P) w t t o.type 72 gd od dLen dCap ⟨gs, os, none⟩ sLen sCap cur 72 (u64s cs) hu hsz h1 (by rw [hlen]; exact hn) (by
    intro j v hj
    have hj' : j < cs.length := by have := (List.getElem?_eq_some_iff.1 hj).1; rwa [hlen] at this
    have e : (⟨gs, os, none⟩ : Addr).add j = ⟨gs, os + j, none⟩ := by
      unfold Addr.add; by_cases h0 : j = 0
      · subst h0; rfl
      · rw [if_neg h0]
    rw [e, hsrc j hj', ← hj]
    simp [u64s, hj']) (by rw [hlen]; omega) (by
    intro v hv
    obtain ⟨x, _, rfl⟩ := List.mem_map.1 hv
    rfl)
  unfold Oper.wp
  simp [execOp, ho, resolve, invoke, builtin, hd, hs, hrun, Result.andThen]
  rw [hlen]
  refine h _ ⟨_, setRow_heap w gd cur _ _ _ h1, ?_, ?_, ?_⟩ ⟨rfl, rfl, rfl, by simp [World.setRow], fun k hk hk2 => setRow_other w gd k _ (by simpa using hk2)⟩ (by simp [World.setRow])
  · simp only [List.size_toArray, List.length_append, List.length_take, List.length_drop, Array.length_toList, hlen]; omega
  · rw [length_splice _ _ _ hfit]; exact h3
  · have e1 : cur.toList.take od ++ (u64s cs ++ cur.toList.drop (od + cs.length)) = splice cur.toList od (u64s cs) := by unfold splice; rw [hlen]
    rw [length_splice _ _ _ hfit, e1, take_splice _ wd.length _ _ (by rw [hlen]; exact hfit) (by rw [hcl]; exact h3), h4]
    unfold splice
    simp only [u64s, List.map_append, List.map_take, List.map_drop, List.length_map]

end Go.Proofs.Ytiaghdnhapiioaa

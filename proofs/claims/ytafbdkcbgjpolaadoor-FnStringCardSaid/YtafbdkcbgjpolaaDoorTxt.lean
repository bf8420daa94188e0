/-
  The text of a set: its numbers in braces, commas between. Under no condition.
-/
import Derived.Lib.LaidTab
import Derived.Test.YtafbdkcbgjpolaaDoorNum
namespace Go.Proofs.YtafbdkcbgjpolaaDoor
set_option linter.unusedSimpArgs false
set_option linter.unusedVariables false
set_option maxRecDepth 100000
open Go.RowKit

def tx (l : List Nat) : Nat → List UInt8
  | 0 => [123]
  | k + 1 => tx l k ++ (if 0 < k then [44] else []) ++ Lib.decDigits (l.getD k 0)
theorem tx_zero (l : List Nat) : tx l 0 = [123] := rfl
theorem tx_one (l : List Nat) : tx l 1 = tx l 0 ++ Lib.decDigits (l.getD 0 0) := by simp [tx]
theorem tx_more (l : List Nat) (k : Nat) (h : 0 < k) : tx l (k + 1) = tx l k ++ [44] ++ Lib.decDigits (l.getD k 0) := by simp [tx, h]
theorem tx_le (l : List Nat) (h : ∀ x ∈ l, x < 1000000) (k : Nat) : (tx l k).length ≤ 1 + 21 * k := by
  induction k with
  | zero => simp [tx]
  | succ k ih =>
    have h1 : (Lib.decDigits (l.getD k 0)).length ≤ 20 := digits_le _ (by
      by_cases hk : k < l.length
      · rw [getD_in _ _ _ hk]; exact h _ (List.getElem_mem _)
      · rw [getD_out _ _ _ (by omega)]; decide)
    have h2 : (if 0 < k then [44] else ([] : List UInt8)).length ≤ 1 := by split <;> simp
    simp only [tx, List.length_append]
    omega
theorem IntsAt.posn {w : World} {ad : Option Addr} {n cap : Nat} {l : List Nat} (h : IntsAt w (.slice ad n cap) l) (k : Nat) (hk : k < l.length) : ∃ b off, ad = some ⟨b, off, none⟩ ∧ w.cell? ⟨b, off + k, none⟩ = some (.int .i64 (l.getD k 0 : Nat)) := by
  rcases h with ⟨_, _, _, rfl⟩ | ⟨b, off, c, h1, h2⟩
  · exact absurd hk (Nat.not_lt_zero _)
  · simp only [Value.slice.injEq] at h1
    exact ⟨b, off, h1.1, h2 k hk⟩
theorem tabIs_kept {P : Program} {w w' : World} {nm : String} {k : IntKind} {zs : List Int} (h : Lib.TabIs P w nm k zs) (kk : Kept [] w w') : Lib.TabIs P w' nm k zs := by
  unfold Lib.TabIs World.var? at *
  cases hg : P.globalNamed nm with
  | none => simp [hg] at h
  | some g =>
    simp only [hg, Option.bind_some] at h ⊢
    have hlt : g < w.heap.size := by
      rcases Nat.lt_or_ge g w.heap.size with h' | h'
      · exact h'
      · rw [Array.getElem?_eq_none h'] at h; simp at h
    rw [kk.block g hlt (by simp)]
    exact h

end Go.Proofs.YtafbdkcbgjpolaaDoor

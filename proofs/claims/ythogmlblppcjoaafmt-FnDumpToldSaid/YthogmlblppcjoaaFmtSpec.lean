/-
  The contracts of the reference's small functions: At, On, From, and of same and fits; for sets of at most 20000 bits.
-/
import Derived.Test.YthogmlblppcjoaaFmtBuild
namespace Go.Proofs.YthogmlblppcjoaaFmt
set_option linter.unusedSimpArgs false
set_option linter.unusedVariables false
open Go.RowKit

/-- Block b is a row of bools; its first k are told by f. -/
def BRow (w : World) (b c k : Nat) (f : Nat → Bool) : Prop :=
  ∃ cur : Array Value, w.heap[b]? = some (.cells cur 4 (0, 0)) ∧ cur.size = c ∧ k ≤ c ∧ ∀ j, j < k → cur[j]? = some (.bool (f j))
theorem BRow.lt {w : World} {b c k : Nat} {f : Nat → Bool} (h : BRow w b c k f) : b < w.heap.size := by obtain ⟨_, h1, _⟩ := h; exact lt_of_heap h1
theorem BRow.le {w : World} {b c k : Nat} {f : Nat → Bool} (h : BRow w b c k f) : k ≤ c := by obtain ⟨_, _, _, h3, _⟩ := h; exact h3
theorem BRow.cell {w : World} {b c k : Nat} {f : Nat → Bool} (h : BRow w b c k f) (j : Nat) (hj : j < k) : w.cell? ⟨b, j, none⟩ = some (.bool (f j)) := by
  obtain ⟨cur, h1, _, _, h4⟩ := h; rw [cell_of_heap h1]; exact h4 j hj
theorem BRow.any {w : World} {b c k : Nat} {f : Nat → Bool} (h : BRow w b c k f) (j : Nat) (hj : j < c) : ∃ u, w.cell? ⟨b, j, none⟩ = some u := by
  obtain ⟨cur, h1, h2, _, _⟩ := h; rw [cell_of_heap h1]; exact ⟨cur[j]'(by omega), by simp [h2, hj]⟩
theorem BRow.free {w : World} {b c k : Nat} {f : Nat → Bool} (h : BRow w b c k f) (j : Nat) : w.frozen? ⟨b, j, none⟩ = false := by
  obtain ⟨cur, h1, _⟩ := h; exact free_of_heap h1
theorem BRow.kept {S : List Nat} {w w' : World} {b c k : Nat} {f : Nat → Bool} (h : BRow w b c k f) (q : Kept S w w') (hb : b ∉ S) : BRow w' b c k f := by
  obtain ⟨cur, h1, r⟩ := h; exact ⟨cur, q.heap hb h1, r⟩
theorem BRow.other {w : World} {b c k d o : Nat} {f : Nat → Bool} (h : BRow w b c k f) (hb : b ≠ d) (v : Value) : BRow (w.setCell ⟨d, o, none⟩ v) b c k f := by
  obtain ⟨cur, h1, r⟩ := h; exact ⟨cur, setCell_heap_other h1 hb v, r⟩
theorem BRow.alloc {w : World} {b c k : Nat} {f : Nat → Bool} (h : BRow w b c k f) (o : Obj) : BRow (w.alloc o) b c k f := by
  obtain ⟨cur, h1, r⟩ := h; exact ⟨cur, alloc_heap_old h1 o, r⟩
theorem BRow.push {w : World} {b c k : Nat} {f : Nat → Bool} (h : BRow w b c k f) (hk : k < c) : BRow (w.setCell ⟨b, k, none⟩ (.bool (f k))) b c (k + 1) f := by
  obtain ⟨cur, h1, h2, h3, h4⟩ := h
  refine ⟨_, setCell_heap_same h1 _, by simpa using h2, hk, fun j hj => ?_⟩
  rw [Array.getElem?_setIfInBounds]
  by_cases e : k = j
  · subst e; rw [if_pos rfl, if_pos (by omega)]
  · rw [if_neg e]; exact h4 j (by omega)
theorem BRow.set {w : World} {b c k : Nat} {f : Nat → Bool} (h : BRow w b c k f) (i : Nat) (x : Bool) (hi : i < c) : BRow (w.setCell ⟨b, i, none⟩ (.bool x)) b c k (fun j => if j = i then x else f j) := by
  obtain ⟨cur, h1, h2, h3, h4⟩ := h
  refine ⟨_, setCell_heap_same h1 _, by simpa using h2, h3, fun j hj => ?_⟩
  rw [Array.getElem?_setIfInBounds]
  by_cases e : i = j
  · subst e; rw [if_pos rfl, if_pos (by omega)]; simp
  · rw [if_neg e, h4 j hj]; simp [Ne.symm e]
theorem BRow.congr {w : World} {b c k : Nat} {f f' : Nat → Bool} (h : BRow w b c k f) (he : ∀ j, j < k → f j = f' j) : BRow w b c k f' := by
  obtain ⟨cur, h1, h2, h3, h4⟩ := h; exact ⟨cur, h1, h2, h3, fun j hj => by rw [← he j hj]; exact h4 j hj⟩
theorem BRow.mono {w : World} {b c k k' : Nat} {f : Nat → Bool} (h : BRow w b c k f) (hk : k' ≤ k) : BRow w b c k' f := by
  obtain ⟨cur, h1, h2, h3, h4⟩ := h; exact ⟨cur, h1, h2, by omega, fun j hj => h4 j (by omega)⟩
theorem BRow.new (w : World) (n k : Nat) (h : k ≤ n) : BRow (w.alloc (.cells (zrow (.bool false) n) 4)) w.heap.size n k (fun _ => false) :=
  ⟨zrow (.bool false) n, heap_alloc_new w _, by simp [zrow], h, fun j hj => by unfold zrow; rw [List.getElem?_toArray, List.getElem?_replicate, if_pos (by omega)]⟩

/-- A value of the reference's Set: n bits, told by f. -/
def SpecSet (w : World) (s : Value) (n : Nat) (f : Nat → Bool) (t : Bool) : Prop :=
  ∃ b c, s = .agg #[.slice (some ⟨b, 0, none⟩) n c, .bool t] ∧ BRow w b c n f
theorem SpecSet.kept {w w' : World} {s : Value} {n : Nat} {f : Nat → Bool} {t : Bool} (h : SpecSet w s n f t) (q : Kept [] w w') : SpecSet w' s n f t := by
  obtain ⟨b, c, h1, h2⟩ := h; exact ⟨b, c, h1, h2.kept q (by simp)⟩
theorem SpecSet.congr {w : World} {s : Value} {n : Nat} {f f' : Nat → Bool} {t : Bool} (h : SpecSet w s n f t) (he : ∀ j, j < n → f j = f' j) : SpecSet w s n f' t := by
  obtain ⟨b, c, h1, h2⟩ := h; exact ⟨b, c, h1, h2.congr he⟩
def fAt (n : Nat) (f : Nat → Bool) (i : Int) : Bool := decide (0 ≤ i) && decide (i < n) && f i.toNat


set_option maxHeartbeats 400000 in
theorem same_c (va vb : Value) (l : List Nat) (w : World) (ha : IntsAt w va l) (hb : IntsAt w vb l) (hl : l.length ≤ 1000000) :
    Calls Tryf.prog 7 #[va, vb] w fun e w' => e = .returned (.bool true) ∧ w = w' := by
  rcases ha with ⟨ad, cp, rfl, rfl⟩ | ⟨ba, oa, cp, rfl, hca⟩
  · have hvb : ∃ ad' cp', vb = .slice ad' 0 cp' := by
      rcases hb with ⟨a', c', rfl, _⟩ | ⟨b', o', c', rfl, _⟩ <;> exact ⟨_, _, rfl⟩
    obtain ⟨ad', cp', rfl⟩ := hvb
    clear hb
    go_enter Tryf.func7, Tryf.ntmps7
    go_wp2
    refine wp_loop_rounds 1 ?_
    rw [rounds_succ]
    go_wp2
    go_ret
    exact ⟨rfl, rfl⟩
  · by_cases hl0 : l.length = 0
    · have hvb : ∃ ad' cp', vb = .slice ad' 0 cp' := by
        rcases hb with ⟨a', c', rfl, _⟩ | ⟨b', o', c', rfl, _⟩
        · exact ⟨_, _, rfl⟩
        · exact ⟨_, _, by rw [hl0]⟩
      obtain ⟨ad', cp', rfl⟩ := hvb
      obtain rfl : l = [] := List.eq_nil_of_length_eq_zero hl0
      clear hb hca hl0
      go_enter Tryf.func7, Tryf.ntmps7
      go_wp2
      refine wp_loop_rounds 1 ?_
      rw [rounds_succ]
      go_wp2
      go_ret
      exact ⟨rfl, rfl⟩
    · have hvb : ∃ bb ob cp', vb = .slice (some ⟨bb, ob, none⟩) l.length cp' ∧ ∀ j, j < l.length → w.cell? ⟨bb, ob + j, none⟩ = some (.int .i64 (l.getD j 0 : Nat)) := by
        rcases hb with ⟨a', c', _, h⟩ | ⟨b', o', c', h1, h2⟩
        · subst h; simp at hl0
        · exact ⟨_, _, _, h1, h2⟩
      obtain ⟨bb, ob, cp', rfl, hcb⟩ := hvb
      clear hb
      obtain ⟨g, hg⟩ : ∃ g : Nat → Nat, g = fun j => l.getD j 0 := ⟨_, rfl⟩
      have hca' : ∀ j, j < l.length → w.cell? ⟨ba, oa + j, none⟩ = some (.int .i64 (g j : Nat)) := by rw [hg]; exact hca
      have hcb' : ∀ j, j < l.length → w.cell? ⟨bb, ob + j, none⟩ = some (.int .i64 (g j : Nat)) := by rw [hg]; exact hcb
      clear hca hcb hg
      obtain ⟨m, hm⟩ : ∃ m, l.length = m := ⟨_, rfl⟩
      rw [hm] at hl hl0 hca' hcb' ⊢
      clear hm
      have HA := Lib.hid hca'; have HB := Lib.hid hcb'; clear hca' hcb'
      go_enter Tryf.func7, Tryf.ntmps7
      go_wp2
      go_loop [14] (fun i => ∃ k : Nat, k ≤ m ∧ i = .int .i64 k) (fun i => m - (intOf i).toNat)
      case atStart => exact ⟨0, Nat.zero_le _, rfl⟩
      case round =>
        obtain ⟨k, hk, rfl⟩ := hrel
        by_cases hkm : k < m
        · have h1 := HA.out k hkm
          have h2 := HB.out k hkm
          generalize g k = x at *
          go_wp2
          go_round
          case rel => exact ⟨k + 1, by omega, by go_num⟩
          case measure => simp [intOf]; omega
        · go_wp2
          go_ret
          exact ⟨rfl, rfl⟩


end Go.Proofs.YthogmlblppcjoaaFmt

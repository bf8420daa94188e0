/-
  The memory layer: which blocks a call may have changed (Kept), a row of words (URow), a bit set in memory (BSet); under no condition.
-/
import Derived.Test.YthogmlblppcjoaaFmtRows
import Derived.WalkKit
import Derived.WalkSpells
import Derived.WalkLawsBesides
import Derived.Lib.Hide
import Derived.Deep.QuietTactic
import Derived.BigQuiet
import Derived.StillTailTactics
import Derived.Deep.RegionHeld3
import Derived.Laws.CopyOwn
namespace Go.Proofs.YthogmlblppcjoaaFmt
set_option linter.unusedSimpArgs false
set_option linter.unusedVariables false
open Go.RowKit

/-- Only the blocks of S (and new ones) may differ. -/
structure Kept (S : List Nat) (w w' : World) : Prop where
  os : w'.os = w.os
  tape : w'.tape = w.tape
  output : w'.output = w.output
  size : w.heap.size ≤ w'.heap.size
  block : ∀ k, k < w.heap.size → k ∉ S → w'.heap[k]? = w.heap[k]?

theorem Kept.refl (S : List Nat) (w : World) : Kept S w w := ⟨rfl, rfl, rfl, Nat.le_refl _, fun _ _ _ => rfl⟩
theorem Kept.trans {S S' : List Nat} {a b c : World} (h : Kept S a b) (k : Kept S' b c) (hs : ∀ i ∈ S', i ∈ S ∨ a.heap.size ≤ i) : Kept S a c :=
  ⟨k.os.trans h.os, k.tape.trans h.tape, k.output.trans h.output, Nat.le_trans h.size k.size, fun i hi hn => by
    rw [k.block i (Nat.lt_of_lt_of_le hi h.size) (fun hm => by rcases hs i hm with h1 | h1; exact hn h1; omega)]
    exact h.block i hi hn⟩
theorem Kept.trans0 {S : List Nat} {a b c : World} (h : Kept S a b) (k : Kept [] b c) : Kept S a c := h.trans k (fun _ h => by simp at h)
theorem Kept.mono {S S' : List Nat} {a b : World} (h : Kept S a b) (hs : ∀ i ∈ S, i ∈ S' ∨ a.heap.size ≤ i) : Kept S' a b :=
  ⟨h.os, h.tape, h.output, h.size, fun i hi hn => h.block i hi (fun hm => by rcases hs i hm with h1 | h1; exact hn h1; omega)⟩
theorem Kept.alloc {S : List Nat} {a w : World} (h : Kept S a w) (o : Obj) : Kept S a (w.alloc o) :=
  h.trans0 ⟨rfl, rfl, rfl, by simp, fun k hk _ => Below.heap_alloc _ _ _ hk⟩
theorem Kept.drew {S : List Nat} {a w : World} (h : Kept S a w) : Kept S a w.drew := ⟨h.os, h.tape, h.output, h.size, h.block⟩
theorem Kept.drewN {S : List Nat} {a w : World} (h : Kept S a w) (n : Nat) : Kept S a (w.drewN n) := ⟨h.os, h.tape, h.output, h.size, h.block⟩
theorem Kept.setCell {S : List Nat} {a w : World} (h : Kept S a w) {p : Addr} (hp : p.block ∈ S ∨ a.heap.size ≤ p.block) (u : Value) : Kept S a (w.setCell p u) :=
  ⟨h.os, h.tape, h.output, by simpa [World.setCell] using h.size, fun k hk hn => by
    rw [Below.heap_setCell _ _ _ _ (fun e => by subst e; rcases hp with h1 | h1; exact hn h1; omega)]
    exact h.block k hk hn⟩
theorem Kept.grown {S : List Nat} {a w w' : World} {row : Option Nat} (h : Kept S a w) (hg : w.grownBy w' row) (hr : ∀ k, row = some k → k ∈ S ∨ a.heap.size ≤ k) : Kept S a w' :=
  ⟨hg.os.trans h.os, hg.tape.trans h.tape, hg.output.trans h.output, Nat.le_trans h.size hg.size, fun k hk hn => by
    rw [hg.block k (Nat.lt_of_lt_of_le hk h.size) (fun e => by rcases hr k e.symm with h1 | h1; exact hn h1; omega)]
    exact h.block k hk hn⟩
theorem Kept.below {w w' : World} (h : Kept [] w w') : Below w.heap.size w w' := ⟨h.os, h.tape, h.output, h.size, fun k hk => h.block k hk (by simp)⟩
theorem Kept.of_below {w w' : World} (h : Below w.heap.size w w') : Kept [] w w' := ⟨h.os, h.tape, h.output, h.size, fun k hk _ => h.block k hk⟩
theorem Kept.heap {S : List Nat} {w w' : World} (h : Kept S w w') {k : Nat} {o : Obj} (hk : k ∉ S) (ho : w.heap[k]? = some o) : w'.heap[k]? = some o := by
  rw [h.block k (Array.getElem?_eq_some_iff.1 ho).1 hk]; exact ho
theorem Kept.cell {S : List Nat} {w w' : World} (h : Kept S w w') {p : Addr} {v : Value} (hk : p.block ∉ S) (ho : w.cell? p = some v) : w'.cell? p = some v := by
  rw [World.cell?_of_block (w := w) (h.block p.block (World.block_lt_of_cell? w p ho) hk)]; exact ho

theorem lt_of_heap {w : World} {k : Nat} {o : Obj} (h : w.heap[k]? = some o) : k < w.heap.size := (Array.getElem?_eq_some_iff.1 h).1
theorem cell_of_heap {w : World} {b o : Nat} {cs : Array Value} {t : TypeId} {z : Nat × Nat} (h : w.heap[b]? = some (.cells cs t z)) : w.cell? ⟨b, o, none⟩ = cs[o]? := by
  simp [World.cell?, h]
theorem free_of_heap {w : World} {b o : Nat} {cs : Array Value} {t : TypeId} (h : w.heap[b]? = some (.cells cs t (0, 0))) : w.frozen? ⟨b, o, none⟩ = false := by
  simp [World.frozen?, h]
theorem setCell_heap_same {w : World} {b o : Nat} {cs : Array Value} {t : TypeId} {z : Nat × Nat} (h : w.heap[b]? = some (.cells cs t z)) (v : Value) : (w.setCell ⟨b, o, none⟩ v).heap[b]? = some (.cells (cs.setIfInBounds o v) t z) := by
  simp only [World.setCell, Array.getElem?_modify, if_true, h]; simp
theorem setCell_heap_other {w : World} {b o k : Nat} {x : Obj} (h : w.heap[k]? = some x) (hk : k ≠ b) (v : Value) : (w.setCell ⟨b, o, none⟩ v).heap[k]? = some x := by
  rw [Below.heap_setCell _ _ _ _ hk]; exact h
theorem alloc_heap_old {w : World} {k : Nat} {x : Obj} (h : w.heap[k]? = some x) (o : Obj) : (w.alloc o).heap[k]? = some x := by
  rw [Below.heap_alloc _ _ _ (lt_of_heap h)]; exact h

/-! ### a row of words -/
def u64s (ws : List Nat) : List Value := ws.map (fun (x : Nat) => Value.int .u64 (x : Int))
theorem length_u64s (ws : List Nat) : (u64s ws).length = ws.length := by simp [u64s]
theorem u64s_append (a b : List Nat) : u64s (a ++ b) = u64s a ++ u64s b := by simp [u64s]
def URow (w : World) (g : Nat) (ws : List Nat) (cap : Nat) : Prop :=
  ∃ cur : Array Value, w.heap[g]? = some (.cells cur 51 (0, 0)) ∧ cur.size = cap ∧ ws.length ≤ cap ∧ cur.toList.take ws.length = u64s ws
theorem URow.lt {w : World} {g cap : Nat} {ws : List Nat} (h : URow w g ws cap) : g < w.heap.size := by obtain ⟨_, h1, _⟩ := h; exact lt_of_heap h1
theorem URow.le {w : World} {g cap : Nat} {ws : List Nat} (h : URow w g ws cap) : ws.length ≤ cap := by obtain ⟨_, _, _, h, _⟩ := h; exact h
theorem URow.cell {w : World} {g cap : Nat} {ws : List Nat} (h : URow w g ws cap) (j : Nat) (hj : j < ws.length) : w.cell? ⟨g, j, none⟩ = some (.int .u64 (ws.getD j 0 : Nat)) := by
  obtain ⟨cur, hg, hs, hl, ht⟩ := h
  rw [cell_of_heap hg]
  have h1 : cur.toList[j]? = (cur.toList.take ws.length)[j]? := by rw [List.getElem?_take_of_lt hj]
  rw [← Array.getElem?_toList, h1, ht]
  simp [u64s, hj]
theorem URow.any {w : World} {g cap : Nat} {ws : List Nat} (h : URow w g ws cap) (j : Nat) (hj : j < cap) : ∃ u, w.cell? ⟨g, j, none⟩ = some u := by
  obtain ⟨cur, hg, hs, hl, ht⟩ := h
  rw [cell_of_heap hg]
  exact ⟨cur[j]'(by omega), by simp [hs, hj]⟩
theorem URow.free {w : World} {g cap : Nat} {ws : List Nat} (h : URow w g ws cap) (j : Nat) : w.frozen? ⟨g, j, none⟩ = false := by
  obtain ⟨cur, hg, _⟩ := h; exact free_of_heap hg
theorem URow.kept {S : List Nat} {w w' : World} {g cap : Nat} {ws : List Nat} (h : URow w g ws cap) (k : Kept S w w') (hg : g ∉ S) : URow w' g ws cap := by
  obtain ⟨cur, h1, r⟩ := h; exact ⟨cur, k.heap hg h1, r⟩
theorem URow.other {w : World} {g cap b o : Nat} {ws : List Nat} (h : URow w g ws cap) (hb : g ≠ b) (v : Value) : URow (w.setCell ⟨b, o, none⟩ v) g ws cap := by
  obtain ⟨cur, h1, r⟩ := h; exact ⟨cur, setCell_heap_other h1 hb v, r⟩
theorem URow.alloc {w : World} {g cap : Nat} {ws : List Nat} (h : URow w g ws cap) (o : Obj) : URow (w.alloc o) g ws cap := by
  obtain ⟨cur, h1, r⟩ := h; exact ⟨cur, alloc_heap_old h1 o, r⟩
theorem URow.drewN {w : World} {g cap : Nat} {ws : List Nat} (h : URow w g ws cap) (n : Nat) : URow (w.drewN n) g ws cap := h
theorem take_set_eq {α : Type} (l : List α) (k m : Nat) (x : α) : (l.set k x).take m = (l.take m).set k x := List.take_set
theorem URow.set {w : World} {g cap : Nat} {ws : List Nat} (h : URow w g ws cap) (k x : Nat) : URow (w.setCell ⟨g, k, none⟩ (.int .u64 (x : Int))) g (ws.set k x) cap := by
  obtain ⟨cur, h1, h2, h3, h4⟩ := h
  refine ⟨_, setCell_heap_same h1 _, by simpa using h2, by simpa using h3, ?_⟩
  rw [Array.toList_setIfInBounds, take_set_eq, List.length_set, h4]
  simp [u64s, List.map_set]
theorem URow.push {w : World} {g cap : Nat} {ws : List Nat} (h : URow w g ws cap) (x : Nat) (hk : ws.length < cap) : URow (w.setCell ⟨g, ws.length, none⟩ (.int .u64 (x : Int))) g (ws ++ [x]) cap := by
  obtain ⟨cur, h1, h2, h3, h4⟩ := h
  refine ⟨_, setCell_heap_same h1 _, by simpa using h2, by simp; omega, ?_⟩
  rw [Array.toList_setIfInBounds, List.length_append, List.length_singleton, List.take_add_one, take_set_eq, h4, u64s_append, List.set_eq_of_length_le (by simp [u64s])]
  have : ws.length < cur.toList.length := by simpa [h2] using hk
  rw [List.getElem?_set, if_pos rfl, if_pos this]
  rfl
theorem URow.take {w : World} {g cap : Nat} {ws : List Nat} (h : URow w g ws cap) (k : Nat) : URow w g (ws.take k) cap := by
  obtain ⟨cur, h1, h2, h3, h4⟩ := h
  refine ⟨cur, h1, h2, by simp; omega, ?_⟩
  rw [List.length_take, ← List.take_take, h4]
  simp [u64s, ← List.map_take]
/-- A new row, all cells z. -/
def zrow (z : Value) (c : Nat) : Array Value := (List.replicate c z).toArray
theorem URow.new (w : World) (m c : Nat) (h : m ≤ c) : URow (w.alloc (.cells (zrow (.int .u64 0) c) 51)) w.heap.size (List.replicate m 0) c := by
  refine ⟨zrow (.int .u64 0) c, heap_alloc_new w _, by simp [zrow], by simpa using h, ?_⟩
  simp [zrow, u64s, Nat.min_eq_left h]

/-- The two cells of a BitSet. -/
def Hdr (w : World) (b n g m cap : Nat) : Prop := w.heap[b]? = some (.cells #[.int .u64 (n : Int), .slice (some ⟨g, 0, none⟩) m cap] 44 (0, 0))
theorem Hdr.lt {w : World} {b n g m cap : Nat} (h : Hdr w b n g m cap) : b < w.heap.size := lt_of_heap h
theorem Hdr.c0 {w : World} {b n g m cap : Nat} (h : Hdr w b n g m cap) : w.cell? ⟨b, 0, none⟩ = some (.int .u64 (n : Int)) := by rw [cell_of_heap h]; rfl
theorem Hdr.c1 {w : World} {b n g m cap : Nat} (h : Hdr w b n g m cap) : w.cell? ⟨b, 1, none⟩ = some (.slice (some ⟨g, 0, none⟩) m cap) := by rw [cell_of_heap h]; rfl
theorem Hdr.free {w : World} {b n g m cap : Nat} (h : Hdr w b n g m cap) (j : Nat) : w.frozen? ⟨b, j, none⟩ = false := free_of_heap h
theorem Hdr.kept {S : List Nat} {w w' : World} {b n g m cap : Nat} (h : Hdr w b n g m cap) (k : Kept S w w') (hb : b ∉ S) : Hdr w' b n g m cap := k.heap hb h
theorem Hdr.other {w : World} {b n g m cap c o : Nat} (h : Hdr w b n g m cap) (hb : b ≠ c) (v : Value) : Hdr (w.setCell ⟨c, o, none⟩ v) b n g m cap := setCell_heap_other h hb v
theorem Hdr.alloc {w : World} {b n g m cap : Nat} (h : Hdr w b n g m cap) (o : Obj) : Hdr (w.alloc o) b n g m cap := alloc_heap_old h o
theorem Hdr.drewN {w : World} {b n g m cap : Nat} (h : Hdr w b n g m cap) (k : Nat) : Hdr (w.drewN k) b n g m cap := h
theorem Hdr.setLen {w : World} {b n g m cap : Nat} (h : Hdr w b n g m cap) (n' : Nat) : Hdr (w.setCell ⟨b, 0, none⟩ (.int .u64 (n' : Int))) b n' g m cap := setCell_heap_same h _
theorem Hdr.setRow {w : World} {b n g m cap : Nat} (h : Hdr w b n g m cap) (g' m' cap' : Nat) : Hdr (w.setCell ⟨b, 1, none⟩ (.slice (some ⟨g', 0, none⟩) m' cap')) b n g' m' cap' := setCell_heap_same h _

/-! ### bits of words -/
def wbit (ws : List Nat) (i : Nat) : Bool := (ws.getD (i / 64) 0).testBit (i % 64)
structure WordsOk (ws : List Nat) (n : Nat) (f : Nat → Bool) : Prop where
  length : ws.length = (n + 63) / 64
  lt : ∀ x ∈ ws, x < 2 ^ 64
  bit : ∀ j, wbit ws j = (decide (j < n) && f j)

/-- Block b is a BitSet of length n with the bits f, its words in block g. -/
def BSet (w : World) (b g n : Nat) (f : Nat → Bool) : Prop :=
  b ≠ g ∧ ∃ (cap : Nat) (ws : List Nat), Hdr w b n g ws.length cap ∧ URow w g ws cap ∧ WordsOk ws n f
theorem BSet.kept {S : List Nat} {w w' : World} {b g n : Nat} {f : Nat → Bool} (h : BSet w b g n f) (k : Kept S w w') (hb : b ∉ S) (hg : g ∉ S) : BSet w' b g n f := by
  obtain ⟨hne, cap, ws, h1, h2, r⟩ := h
  exact ⟨hne, cap, ws, h1.kept k hb, h2.kept k hg, r⟩
theorem BSet.alloc {w : World} {b g n : Nat} {f : Nat → Bool} (h : BSet w b g n f) (o : Obj) : BSet (w.alloc o) b g n f := h.kept ((Kept.refl [] w).alloc o) (by simp) (by simp)
theorem BSet.drewN {w : World} {b g n : Nat} {f : Nat → Bool} (h : BSet w b g n f) (k : Nat) : BSet (w.drewN k) b g n f := h
theorem BSet.lt {w : World} {b g n : Nat} {f : Nat → Bool} (h : BSet w b g n f) : b < w.heap.size ∧ g < w.heap.size := by
  obtain ⟨hne, cap, ws, h1, h2, r⟩ := h
  exact ⟨h1.lt, h2.lt⟩

theorem run_mk {P : Program} (t e : TypeId) (i : TypeInfo) (z : Value) (bytes : Nat) (h1 : P.underlying t = some (.slice e)) (h2 : P.info? e = some i) (h3 : i.zero = some z) (h4 : i.size = 1) (h5 : i.bytes = bytes) (hz : z.cells = #[z])
    (L C : Int) (n m : Nat) (hL : L = n) (hC : C = m) (hnm : n ≤ m) (hb : bytes * m ≤ 281474976710656) (hm : m ≤ 9223372036854775807) (w : World) :
    (Instr.makeSlice t (.int .i64 L) (.int .i64 C)).run P w = .ok (.slice (some ⟨w.heap.size, 0, none⟩) n m) (w.alloc (.cells (zrow z m) e)) := by
  have hb' : (i.bytes : Int) * C ≤ 281474976710656 := by
    rw [h5, hC]
    have h : ((bytes * m : Nat) : Int) ≤ 281474976710656 := by omega
    rwa [Int.natCast_mul] at h
  have hr := run_make (P := P) w t e i z h1 h2 h3 .i64 .i64 L C (by omega) (by omega) hb' (by omega)
  have e1 : madeCells z.cells (C.toNat * i.size) = zrow z m := by
    unfold zrow
    rw [hz, h4, hC]
    apply Array.ext'
    rw [toList_madeCells_one]; simp
  rw [e1, show L.toNat = n by omega, show C.toNat = m by omega] at hr
  exact hr
/-- 'make' at a size that is a number. -/
theorem wpList_mk {P : Program} {w : World} {ops : Array Oper} {rest : List Oper} {o : Oper} {a : Act} {Q : Exit → Act → World → Prop} (hg : o.guard = none) (l c : Operand) (t e : TypeId) (hop : o.op = Op.makeSlice t l c)
    (i : TypeInfo) (z : Value) (bytes : Nat) (h1 : P.underlying t = some (.slice e)) (h2 : P.info? e = some i) (h3 : i.zero = some z) (h4 : i.size = 1) (h5 : i.bytes = bytes) (hz : z.cells = #[z])
    (L C : Int) (n m : Nat) (hl : a.eval l = .int .i64 L) (hc : a.eval c = .int .i64 C) (hL : L = n) (hC : C = m) (hnm : n ≤ m) (hb : bytes * m ≤ 281474976710656) (hm : m ≤ 9223372036854775807)
    (hK : wpList P ops Q rest (a.put o.dst (.slice (some ⟨w.heap.size, 0, none⟩) n m)) (w.alloc (.cells (zrow z m) e))) : wpList P ops Q (o :: rest) a w := by
  refine wpList_plain hg fun K hK' => ?_
  have hr := run_mk (P := P) t e i z bytes h1 h2 h3 h4 h5 hz L C n m hL hC hnm hb hm w
  unfold Oper.wp
  simp [execOp, hop, hl, hc, hr, Result.andThen]
  exact hK' _ _ hK

theorem splice_append {α : Type} (A B : List α) (o : Nat) (cs : List α) (h : o + cs.length ≤ A.length) : splice (A ++ B) o cs = splice A o cs ++ B := by
  unfold splice
  rw [List.take_append_of_le_length (by omega), List.drop_append_of_le_length h]
  simp only [List.append_assoc]
theorem take_splice {α : Type} (L : List α) (l o : Nat) (cs : List α) (h : o + cs.length ≤ l) (hl : l ≤ L.length) : (splice L o cs).take l = splice (L.take l) o cs := by
  have e : L = L.take l ++ L.drop l := (List.take_append_drop l L).symm
  have hA : (L.take l).length = l := by rw [List.length_take, Nat.min_eq_left hl]
  have : splice L o cs = splice (L.take l) o cs ++ L.drop l := by
    conv => lhs; rw [e]
    exact splice_append _ _ _ _ (by omega)
  rw [this, List.take_append_of_le_length (by rw [length_splice _ _ _ (by omega)]; omega), List.take_of_length_le (by rw [length_splice _ _ _ (by omega)]; omega)]

/-- 'copy' of words into a row. -/
theorem wpList_copyU {P : Program} {w : World} {ops : Array Oper} {rest : List Oper} {o : Oper} {a : Act} {Q : Exit → Act → World → Prop} (hgd : o.guard = none) (d s : Operand) (t : TypeId)
    (ho : o.op = .call { callee := .builtin .copy, args := #[d, s], argTypes := #[t, t] }) (hu : P.underlying t = some (.slice 51)) (hsz : (P.info? 51).map (·.size) = some 1)
    (gd od dLen dCap gs os sLen sCap : Nat) (hd : a.eval d = .slice (some ⟨gd, od, none⟩) dLen dCap) (hs : a.eval s = .slice (some ⟨gs, os, none⟩) sLen sCap)
    (wd : List Nat) (cd : Nat) (hrow : URow w gd wd cd) (cs : List Nat) (hn : cs.length = Nat.min sLen dLen) (hsrc : ∀ j, j < cs.length → w.cell? ⟨gs, os + j, none⟩ = some (.int .u64 (cs.getD j 0 : Nat)))
    (hfit : od + cs.length ≤ wd.length)
    (h : ∀ w', URow w' gd (splice wd od cs) cd → Kept [gd] w w' → w'.heap.size = w.heap.size → wpList P ops Q rest (a.put o.dst (goInt cs.length)) w') : wpList P ops Q (o :: rest) a w := by
  obtain ⟨cur, h1, h2, h3, h4⟩ := hrow
  have hcl : cur.toList.length = cd := by rw [Array.length_toList]; exact h2
  have hlen : (u64s cs).length = cs.length := length_u64s cs
  refine wpList_copy_own hgd d s t t ho 51 hu hsz gd od dLen dCap ⟨gs, os, none⟩ sLen sCap hd hs cur 51 h1 (u64s cs) (by rw [hlen]; exact hn) ?_ (by rw [hlen]; omega) ?_ ?_
  · intro j v hj
    have hj' : j < cs.length := by have := (List.getElem?_eq_some_iff.1 hj).1; rwa [hlen] at this
    have e : (⟨gs, os, none⟩ : Addr).add j = ⟨gs, os + j, none⟩ := by
      unfold Addr.add; by_cases h0 : j = 0
      · subst h0; rfl
      · rw [if_neg h0]
    rw [e, hsrc j hj', ← hj]
    simp [u64s, hj']
  · intro v hv
    obtain ⟨x, _, rfl⟩ := List.mem_map.1 hv
    rfl
  · rw [hlen]
    refine h _ ⟨_, setRow_heap w gd cur _ _ _ h1, ?_, ?_, ?_⟩ ⟨rfl, rfl, rfl, by simp [World.setRow], fun k hk hk2 => setRow_other w gd k _ (by simpa using hk2)⟩ (by simp [World.setRow])
    · simp only [List.size_toArray, List.length_append, List.length_take, List.length_drop, Array.length_toList, hlen]; omega
    · rw [length_splice _ _ _ hfit]; exact h3
    · have e1 : cur.toList.take od ++ (u64s cs ++ cur.toList.drop (od + cs.length)) = splice cur.toList od (u64s cs) := by unfold splice; rw [hlen]
      rw [length_splice _ _ _ hfit, e1, take_splice _ wd.length _ _ (by rw [hlen]; exact hfit) (by rw [hcl]; exact h3), h4]
      unfold splice
      simp only [u64s, List.map_append, List.map_take, List.map_drop, List.length_map]

end Go.Proofs.YthogmlblppcjoaaFmt

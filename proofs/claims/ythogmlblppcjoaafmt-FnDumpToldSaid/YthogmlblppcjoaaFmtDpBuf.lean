/-
  bytes.Buffer over a row whose frozen mark lies behind its cells: Len, tryGrowByReslice, growSlice.
-/
import Derived.Test.YthogmlblppcjoaaFmtRow
import Derived.Shelf.Bytes.GrowSlice
import Derived.Lib.BufferMore
import Derived.Lib.FrozenHead
import Derived.Laws.IdiomCopy
import Derived.Deep.Draws
import Derived.BigCall
import Derived.BigGuard
import Derived.OwnWalk
namespace Go.Proofs.YthogmlblppcjoaaFmt
set_option linter.unusedSimpArgs false
set_option linter.unusedVariables false
open Go.RowKit

/-- The row g holds cur; its frozen mark is none, or lies behind its cells. -/
def Free (fz : Nat × Nat) (c : Nat) : Prop := fz.2 = 0 ∨ c ≤ fz.1
theorem Free.frozen {fz : Nat × Nat} {w : World} {g : Nat} {cur : Array Value} {t : TypeId} (h : Free fz cur.size) (hg : w.heap[g]? = some (.cells cur t fz)) (i : Nat) (hi : i < cur.size) : w.frozen? ⟨g, i, none⟩ = false := by
  obtain ⟨lo, hi'⟩ := fz
  simp only [World.frozen?, hg, Bool.and_eq_false_iff, decide_eq_false_iff_not]
  rcases h with h | h <;> simp only at h
  · right; omega
  · left; omega
theorem run_store_q (P : Program) (g o : Nat) (t : TypeId) (fz : Nat × Nat) : ∀ (vs : List Value) (i : Nat) (cur : Array Value) (w : World), w.heap[g]? = some (.cells cur t fz) → Free fz cur.size → o + i + vs.length ≤ cur.size → (∀ v ∈ vs, v.oneCell' = true) →
    (storeCells ⟨g, o, none⟩ vs i).run P w = .ok () (w.setRow g (cur.toList.take (o + i) ++ vs ++ cur.toList.drop (o + i + vs.length)).toArray)
  | [], i, cur, w, hg, _, _, _ => by
    simp only [storeCells, List.append_nil, List.length_nil, Nat.add_zero, List.take_append_drop, Array.toArray_toList]
    rw [setRow_self w g cur t fz hg]
    rfl
  | v :: rest, i, cur, w, hg, hfz, hl, h1 => by
    have hi : o + i < cur.size := by simp at hl; omega
    have hadd : (⟨g, o, none⟩ : Addr).add i = ⟨g, o + i, none⟩ := by unfold Addr.add; split <;> simp_all
    have hcell : w.cell? ⟨g, o + i, none⟩ = some cur[o + i] := by simp [World.cell?, hg, hi]
    have hfro : w.frozen? ⟨g, o + i, none⟩ = false := hfz.frozen hg _ hi
    have hst : (store ((⟨g, o, none⟩ : Addr).add i) v).run P w = .ok () (w.setRow g (cur.setIfInBounds (o + i) v)) := by
      rw [hadd, run_store P w _ v _ (h1 v (by simp)), hcell]
      simp [hfro, setCell_eq_setRow w g (o + i) cur t fz v hg]
    have ih := run_store_q P g o t fz rest (i + 1) (cur.setIfInBounds (o + i) v) (w.setRow g (cur.setIfInBounds (o + i) v)) (setRow_heap w g cur _ t _ hg) (by simpa using hfz) (by simp at hl ⊢; omega) (fun x hx => h1 x (by simp [hx]))
    simp only [storeCells, Sem.run_bind, hst, Result.andThen_ok, ih, setRow_setRow]
    congr 3
    have e := list_seg_step cur.toList (o + i) v rest (by simp at hl ⊢; omega)
    simpa [Array.toList_setIfInBounds, Nat.add_assoc] using e
theorem run_copy_q (P : Program) (w : World) (dT sT ty elem : TypeId) (g o dLen dCap : Nat) (a : Addr) (sLen sCap : Nat) (cur : Array Value) (t : TypeId) (fz : Nat × Nat) (cs : List Value)
    (hu : P.underlying dT = some (.slice elem)) (hs : (P.info? elem).map (·.size) = some 1)
    (hg : w.heap[g]? = some (.cells cur t fz)) (hfz : Free fz cur.size) (hn : cs.length = Nat.min sLen dLen)
    (hsrc : ∀ j v, cs[j]? = some v → w.cell? (a.add j) = some v) (hfit : o + cs.length ≤ cur.size) (h1 : ∀ v ∈ cs, v.oneCell' = true) :
    (Builtin.copy_ #[dT, sT] ty #[.slice (some ⟨g, o, none⟩) dLen dCap, .slice (some a) sLen sCap]).run P w =
      .ok (goInt cs.length) (w.setRow g (cur.toList.take o ++ cs ++ cur.toList.drop (o + cs.length)).toArray) := by
  have hl := run_loadCells_list (P := P) w a cs hsrc
  have hst := run_store_q P g o t fz cs 0 cur w hg hfz (by simpa using hfit) h1
  cases hq : P.info? elem with
  | none => simp [hq] at hs
  | some i =>
    have hi : i.size = 1 := by simpa [hq] using hs
    simp [Builtin.copy_, run_underlying hu, Builtin.lenOf, Builtin.firstCells, sizeOf, typeInfo, hq, hi, ← hn, hl, hst]

theorem Tryf.infoByte : (Tryf.prog.info? 5).map (fun i => (i.zero, i.size, i.bytes)) = some (some (.int .u8 0), 1, 1) := by kernel_rfl
theorem Tryf.sizeByte : (Tryf.prog.info? 5).map (·.size) = some 1 := by kernel_rfl

/-- The header of a buffer at b, nothing read of it: l bytes of the row g, room for cap. -/
def BHdr (w : World) (b g l cap : Nat) (lr : Int) : Prop := w.heap[b]? = some (.cells #[.slice (some ⟨g, 0, none⟩) l cap, .int .i64 0, .int .i8 lr] 59 (0, 0))
theorem BHdr.c0 {w : World} {b g l cap : Nat} {lr : Int} (h : BHdr w b g l cap lr) : w.cell? ⟨b, 0, none⟩ = some (.slice (some ⟨g, 0, none⟩) l cap) := by rw [cell_of_heap h]; rfl
theorem BHdr.c1 {w : World} {b g l cap : Nat} {lr : Int} (h : BHdr w b g l cap lr) : w.cell? ⟨b, 1, none⟩ = some (.int .i64 0) := by rw [cell_of_heap h]; rfl
theorem BHdr.c2 {w : World} {b g l cap : Nat} {lr : Int} (h : BHdr w b g l cap lr) : w.cell? ⟨b, 2, none⟩ = some (.int .i8 lr) := by rw [cell_of_heap h]; rfl
theorem BHdr.free {w : World} {b g l cap : Nat} {lr : Int} (h : BHdr w b g l cap lr) (j : Nat) : w.frozen? ⟨b, j, none⟩ = false := free_of_heap h
theorem BHdr.kept {S : List Nat} {w w' : World} {b g l cap : Nat} {lr : Int} (h : BHdr w b g l cap lr) (k : Kept S w w') (hb : b ∉ S) : BHdr w' b g l cap lr := k.heap hb h
theorem BHdr.set0 {w : World} {b g l cap : Nat} {lr : Int} (h : BHdr w b g l cap lr) (g' l' cap' : Nat) : BHdr (w.setCell ⟨b, 0, none⟩ (.slice (some ⟨g', 0, none⟩) l' cap')) b g' l' cap' lr := setCell_heap_same h _
theorem BHdr.set1 {w : World} {b g l cap : Nat} {lr : Int} (h : BHdr w b g l cap lr) : BHdr (w.setCell ⟨b, 1, none⟩ (.int .i64 0)) b g l cap lr := setCell_heap_same h _
theorem BHdr.set2 {w : World} {b g l cap : Nat} {lr : Int} (h : BHdr w b g l cap lr) (x : Int) : BHdr (w.setCell ⟨b, 2, none⟩ (.int .i8 x)) b g l cap x := setCell_heap_same h _

set_option maxHeartbeats 1000000 in
theorem bufLen_c (b g l cap : Nat) (lr : Int) (w : World) (h : BHdr w b g l cap lr) (hl : l ≤ cap) (hc : cap ≤ 9223372036854775807) :
    Calls Tryf.prog 45 #[.pointer (some ⟨b, 0, none⟩)] w fun e w' => e = .returned (.int .i64 l) ∧ ∃ n, w' = w.drewN n := by
  have c0 := h.c0
  have c1 := h.c1
  go_enter Tryf.func45, Tryf.ntmps45
  go_wp2
  go_region
  all_goals (go_wp2; go_ret; exact ⟨by simp, 1, rfl⟩)

set_option maxHeartbeats 1000000 in
theorem tryGrow_room (b g l cap n : Nat) (lr : Int) (w : World) (h : BHdr w b g l cap lr) (hl : l ≤ cap) (hc : cap ≤ 9223372036854775807) (hn : n ≤ cap - l) :
    Calls Tryf.prog 43 #[.pointer (some ⟨b, 0, none⟩), .int .i64 n] w fun e w' => e = .returned (.tuple #[.int .i64 l, .bool true]) ∧ w' = w.setCell ⟨b, 0, none⟩ (.slice (some ⟨g, 0, none⟩) (l + n) cap) := by
  have c0 := h.c0
  have f0 := h.free 0
  go_enter Tryf.func43, Tryf.ntmps43
  go_wp2
  go_ret2
  exact ⟨rfl, rfl⟩
set_option maxHeartbeats 1000000 in
theorem tryGrow_none (b g l cap n : Nat) (lr : Int) (w : World) (h : BHdr w b g l cap lr) (hl : l ≤ cap) (hc : cap ≤ 9223372036854775807) (hn : cap - l < n) (hn2 : n ≤ 140737488355328) :
    Calls Tryf.prog 43 #[.pointer (some ⟨b, 0, none⟩), .int .i64 n] w fun e w' => e = .returned (.tuple #[.int .i64 0, .bool false]) ∧ w' = w := by
  have c0 := h.c0
  go_enter Tryf.func43, Tryf.ntmps43
  go_wp2
  go_ret2
  exact ⟨rfl, rfl⟩

theorem Tryf.enter47 : ∀ args w, (callFunc 47 args).run Tryf.prog w = .ok (.enter 47 args) w := enters_of Tryf.func47 (by kernel_rfl) rfl
theorem growCatch_c (w : World) : CallsD Tryf.prog 47 #[] .returning w fun e u' w' => e = .returned (.tuple #[]) ∧ u' = .returning ∧ w' = w := by
  have hnn : ∀ w, (binOp .neq 20 .nilIface .nilIface).run Tryf.prog w = .ok (.bool false) w := fun w => Lib.run_neq_nil_nil w Tryf.underlying20
  refine callsD_of_wpS Tryf.func47 rfl fun c₀ cs hu => ?_
  apply wpS_seq
  apply wpS_region
  simp [wpOpsS, go_sem, recoverD, hu, hnn, Tryf.ntmps47, Exit.thenS]
  refine wpS_cond (t := false) (by simp [Act.eval, Array.replicate]) ?_
  simp only [Bool.false_eq_true, if_false]
  refine wpS_of_wp (wp_skip ?_)
  cases c₀
  simp_all [bodyPostS, results, (show Tryf.f47.results = #[] from rfl)]

end Go.Proofs.YthogmlblppcjoaaFmt

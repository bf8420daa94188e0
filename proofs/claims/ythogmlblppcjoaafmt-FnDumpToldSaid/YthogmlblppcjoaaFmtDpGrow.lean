/-
  (*bytes.Buffer).grow where the row has no room.
-/
import Derived.Test.YthogmlblppcjoaaFmtDpGs
namespace Go.Proofs.YthogmlblppcjoaaFmt
set_option linter.unusedSimpArgs false
set_option linter.unusedVariables false
open Go.RowKit

set_option maxHeartbeats 12800000 in
set_option maxRecDepth 100000 in
theorem grow_c0 (b g  cap n : Nat) (lr : Int) (cur : Array Value) (fz : Nat × Nat) (w : World) (h : BHdr w b g 0 cap lr) (hg : w.heap[g]? = some (.cells cur 5 fz)) (hlc : 0 ≤ cap) (hc2 : cap ≤ 140737488355328) (hcs : cur.size = cap) (hgb : g ≠ b)
    (h1 : ∀ v ∈ cur.toList.take 0, v.oneCell' = true) (hn : 1 ≤ n) (hroom : cap - 0 < n) (hlim : 0 + n ≤ 140737488355328) :
    Calls Tryf.prog 44 #[.pointer (some ⟨b, 0, none⟩), .int .i64 n] w fun e w' => e = .returned (.int .i64 (0 : Nat)) ∧ ∃ cap2 cells, BHdr w' b w.heap.size (0 + n) cap2 lr ∧ w'.heap[w.heap.size]? = some (.cells cells 5 (0, 0)) ∧
      cells.size = cap2 ∧ cells.toList.take 0 = cur.toList.take 0 ∧ 0 + n ≤ cap2 ∧ cap2 ≤ maxLen ∧ Kept [b] w w' := by
  have hc3 : cap ≤ 9223372036854775807 := by omega
  have hnil : ∀ W, (binOp .eql 55 (.slice (some ⟨g, 0, none⟩) 0 cap) (.slice none 0 0)).run Tryf.prog W = .ok (.bool false) W := fun W => Lib.run_eql_slice_some_nil W _ _ _ Tryf.underlying55
  go_enter Tryf.func44, Tryf.ntmps44
  go_wp2_with fail
  refine (bufLen_c b g 0 cap lr _ h hlc hc3).mono ?_
  rintro e W0 ⟨rfl, k, hW0⟩
  have h0 : BHdr W0 b g 0 cap lr := by rw [hW0]; exact h
  have hg0 : W0.heap[g]? = some (.cells cur 5 fz) := by rw [hW0]; exact hg
  have c0 := h0.c0
  have c1 := h0.c1
  have f0 := h0.free 0
  have f1 := h0.free 1
  have HW0 := Lib.hid hW0
  clear hW0
  go_wp2_with fail
  refine (tryGrow_none b g 0 cap n lr _ h0 hlc hc3 hroom (by omega)).mono ?_
  rintro e w' ⟨rfl, rfl⟩
  go_wp2_with fail
  have hwn : IntKind.i64.wrap (n : Int) = n := by rw [IntKind.wrap_i64]; omega
  have H0 := Lib.hid h0
  clear h0
  go_region_with (
      go_at_call 46
      refine (growSlice_c g 0 cap n cur fz _ ?_ hcs hlc hn hlim hc2 h1).mono ?_
      exact hg0
      rintro e w2 ⟨cap2, cells, rfl, hN, hcsz, htk, hcap2, hcm2, hbel⟩
      have hb2 : BHdr w2 b g 0 cap lr := (Kept.of_below hbel).heap (by simp) H0.out
      have d0 := hb2.c0
      have d1 := hb2.c1
      have e0 := hb2.free 0
      have e1 := hb2.free 1)
  all_goals (
    go_wp2
    go_ret
    have hsz0 : w'.heap.size = w.heap.size := by rw [HW0.out]; rfl
    have hszd : w'.drew.heap.size = w.heap.size := hsz0
    rw [hszd] at hN hbel
    have hbl := lt_of_heap h
    have hk0 : Kept [b] w w'.drew := by rw [HW0.out]; exact ((Kept.refl _ _).drewN _).drew
    have hk2 : Kept [b] w w2 := hk0.trans (Kept.of_below (by rw [hszd]; exact hbel)) (by simp)
    refine ⟨rfl, cap2, cells, ?_, ?_, hcsz, htk, hcap2, hcm2, ?_⟩
    · first
        | exact (((hb2.set0 _ _ _).set1).set0 _ _ _)
        | (rw [← hszd]; exact (((hb2.set0 _ _ _).set1).set0 _ _ _))
        | (rw [← hszd, Nat.zero_add]; exact (((hb2.set0 _ _ _).set1).set0 _ _ _))
    · exact setCell_heap_other (setCell_heap_other (setCell_heap_other hN (by omega) _) (by omega) _) (by omega) _
    · exact ((hk2.setCell (.inl (by simp)) _).setCell (.inl (by simp)) _).setCell (.inl (by simp)) _)

set_option maxHeartbeats 12800000 in
set_option maxRecDepth 100000 in
theorem grow_cl (b g l cap n : Nat) (lr : Int) (cur : Array Value) (fz : Nat × Nat) (w : World) (h : BHdr w b g l cap lr) (hg : w.heap[g]? = some (.cells cur 5 fz)) (hlc : l ≤ cap) (hc2 : cap ≤ 140737488355328) (hcs : cur.size = cap) (hgb : g ≠ b)
    (h1 : ∀ v ∈ cur.toList.take l, v.oneCell' = true) (hn : 1 ≤ n) (hroom : cap - l < n) (hlim : l + n ≤ 140737488355328) (hl0 : l ≠ 0) :
    Calls Tryf.prog 44 #[.pointer (some ⟨b, 0, none⟩), .int .i64 n] w fun e w' => e = .returned (.int .i64 (l : Nat)) ∧ ∃ cap2 cells, BHdr w' b w.heap.size (l + n) cap2 lr ∧ w'.heap[w.heap.size]? = some (.cells cells 5 (0, 0)) ∧
      cells.size = cap2 ∧ cells.toList.take l = cur.toList.take l ∧ l + n ≤ cap2 ∧ cap2 ≤ maxLen ∧ Kept [b] w w' := by
  have hc3 : cap ≤ 9223372036854775807 := by omega
  have hnil : ∀ W, (binOp .eql 55 (.slice (some ⟨g, 0, none⟩) l cap) (.slice none 0 0)).run Tryf.prog W = .ok (.bool false) W := fun W => Lib.run_eql_slice_some_nil W _ _ _ Tryf.underlying55
  go_enter Tryf.func44, Tryf.ntmps44
  go_wp2_with fail
  refine (bufLen_c b g l cap lr _ h hlc hc3).mono ?_
  rintro e W0 ⟨rfl, k, hW0⟩
  have h0 : BHdr W0 b g l cap lr := by rw [hW0]; exact h
  have hg0 : W0.heap[g]? = some (.cells cur 5 fz) := by rw [hW0]; exact hg
  have c0 := h0.c0
  have c1 := h0.c1
  have f0 := h0.free 0
  have f1 := h0.free 1
  have HW0 := Lib.hid hW0
  clear hW0
  go_wp2_with fail
  refine (tryGrow_none b g l cap n lr _ h0 hlc hc3 hroom (by omega)).mono ?_
  rintro e w' ⟨rfl, rfl⟩
  go_wp2_with fail
  have hwn : IntKind.i64.wrap (n : Int) = n := by rw [IntKind.wrap_i64]; omega
  have H0 := Lib.hid h0
  clear h0
  go_region_with (
      go_at_call 46
      refine (growSlice_c g l cap n cur fz _ ?_ hcs hlc hn hlim hc2 h1).mono ?_
      exact hg0
      rintro e w2 ⟨cap2, cells, rfl, hN, hcsz, htk, hcap2, hcm2, hbel⟩
      have hb2 : BHdr w2 b g l cap lr := (Kept.of_below hbel).heap (by simp) H0.out
      have d0 := hb2.c0
      have d1 := hb2.c1
      have e0 := hb2.free 0
      have e1 := hb2.free 1)
  all_goals (
    go_wp2
    go_ret
    have hsz0 : w'.heap.size = w.heap.size := by rw [HW0.out]; rfl
    have hszd : w'.drew.heap.size = w.heap.size := hsz0
    rw [hszd] at hN hbel
    have hbl := lt_of_heap h
    have hk0 : Kept [b] w w'.drew := by rw [HW0.out]; exact ((Kept.refl _ _).drewN _).drew
    have hk2 : Kept [b] w w2 := hk0.trans (Kept.of_below (by rw [hszd]; exact hbel)) (by simp)
    refine ⟨rfl, cap2, cells, ?_, ?_, hcsz, htk, hcap2, hcm2, ?_⟩
    · first
        | exact (((hb2.set0 _ _ _).set1).set0 _ _ _)
        | (rw [← hszd]; exact (((hb2.set0 _ _ _).set1).set0 _ _ _))
        | (rw [← hszd, Nat.zero_add]; exact (((hb2.set0 _ _ _).set1).set0 _ _ _))
    · exact setCell_heap_other (setCell_heap_other (setCell_heap_other hN (by omega) _) (by omega) _) (by omega) _
    · exact ((hk2.setCell (.inl (by simp)) _).setCell (.inl (by simp)) _).setCell (.inl (by simp)) _)

end Go.Proofs.YthogmlblppcjoaaFmt

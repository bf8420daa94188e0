/-
  The contracts of the reference's Of and of laws' set: what is built of a length from 0 to 2000 and at most 400 places below 2500; all else is told to be too great.
-/
import Derived.Test.YthogmlblppcjoaaFmtSpecB
namespace Go.Proofs.YthogmlblppcjoaaFmt
set_option linter.unusedSimpArgs false
set_option linter.unusedVariables false
open Go.RowKit

/-- The loop of Of that sets the bits. -/
def OfInv (w wr : World) (n k : Nat) (on : List Nat) (L : Int) (v : Value) : Prop :=
  Kept [] w wr ∧ w.heap.size + 4 ≤ wr.heap.size ∧ wr.heap[w.heap.size]? = some (.cells #[.int .i64 L, v] 35 (0, 0)) ∧ wr.heap[w.heap.size + 1]? = some (.cells #[.slice none 0 0, .bool false] 28 (0, 0)) ∧
  wr.heap[w.heap.size + 1 + 1 + 1]? = some (.cells #[.slice (some ⟨w.heap.size + 1 + 1, 0, none⟩) n n, .bool true] 28 (0, 0)) ∧ BRow wr (w.heap.size + 1 + 1) n n (memOf (on.take k))
theorem OfInv.step {w wr : World} {n k : Nat} {on : List Nat} {L : Int} {v : Value} (h : OfInv w wr n k on L v) (hk : k < on.length) (hx : on.getD k 0 < n) :
    OfInv w (wr.setCell ⟨w.heap.size + 1 + 1, on.getD k 0, none⟩ (.bool true)) n (k + 1) on L v := by
  obtain ⟨h1, h2, h3, h4, h5, h6⟩ := h
  refine ⟨h1.setCell (by right; simp; omega) _, by simp [World.setCell]; omega, setCell_heap_other h3 (by omega) _, setCell_heap_other h4 (by omega) _, setCell_heap_other h5 (by omega) _, ?_⟩
  refine (h6.set (on.getD k 0) true hx).congr fun j _ => ?_
  rw [List.take_succ_eq_append_getElem hk, memOf_snoc, getD_in _ _ _ hk]
  by_cases e : j = on[k]
  · simp [e]
  · simp [e]

/-- What the end of Of wants of the loop. -/
theorem OfInv.end {w wr : World} {n k : Nat} {on : List Nat} {L : Int} {v : Value} (h : OfInv w wr n k on L v) (hk : on.take k = on) :
    wr.cell? ⟨w.heap.size + 1, 0, none⟩ = some (.slice none 0 0) ∧ wr.cell? ⟨w.heap.size + 1, 1, none⟩ = some (.bool false) ∧ wr.frozen? ⟨w.heap.size + 1, 0, none⟩ = false ∧ wr.frozen? ⟨w.heap.size + 1, 1, none⟩ = false ∧
    wr.cell? ⟨w.heap.size + 1 + 1 + 1, 0, none⟩ = some (.slice (some ⟨w.heap.size + 1 + 1, 0, none⟩) n n) ∧ wr.cell? ⟨w.heap.size + 1 + 1 + 1, 1, none⟩ = some (.bool true) ∧
    ((wr.setCell ⟨w.heap.size + 1, 0, none⟩ (.slice (some ⟨w.heap.size + 1 + 1, 0, none⟩) n n)).setCell ⟨w.heap.size + 1, 1, none⟩ (.bool true)).cell? ⟨w.heap.size + 1, 0, none⟩ = some (.slice (some ⟨w.heap.size + 1 + 1, 0, none⟩) n n) ∧
    ((wr.setCell ⟨w.heap.size + 1, 0, none⟩ (.slice (some ⟨w.heap.size + 1 + 1, 0, none⟩) n n)).setCell ⟨w.heap.size + 1, 1, none⟩ (.bool true)).cell? ⟨w.heap.size + 1, 1, none⟩ = some (.bool true) ∧
    SpecSet ((wr.setCell ⟨w.heap.size + 1, 0, none⟩ (.slice (some ⟨w.heap.size + 1 + 1, 0, none⟩) n n)).setCell ⟨w.heap.size + 1, 1, none⟩ (.bool true)) (.agg #[.slice (some ⟨w.heap.size + 1 + 1, 0, none⟩) n n, .bool true]) n (memOf on) true ∧
    Kept [] w ((wr.setCell ⟨w.heap.size + 1, 0, none⟩ (.slice (some ⟨w.heap.size + 1 + 1, 0, none⟩) n n)).setCell ⟨w.heap.size + 1, 1, none⟩ (.bool true)) := by
  obtain ⟨h1, h2, h3, h4, h5, h6⟩ := h
  rw [hk] at h6
  have c0 : wr.cell? ⟨w.heap.size + 1, 0, none⟩ = some (.slice none 0 0) := (cell_of_heap h4).trans rfl
  have c1 : wr.cell? ⟨w.heap.size + 1, 1, none⟩ = some (.bool false) := (cell_of_heap h4).trans rfl
  refine ⟨c0, c1, free_of_heap h4, free_of_heap h4, (cell_of_heap h5).trans rfl, (cell_of_heap h5).trans rfl, ?_, ?_, ⟨_, _, rfl, (h6.other (by omega) _).other (by omega) _⟩, (h1.setCell (by right; simp) _).setCell (by right; simp) _⟩
  · exact (World.cell?_setCell_other _ _ _ _ (by simp)).trans (World.cell?_setCell_same _ _ _ c0)
  · exact World.cell?_setCell_same _ _ _ ((World.cell?_setCell_other _ _ _ _ (by simp)).trans c1)

set_option maxHeartbeats 2000000 in
theorem ofGood_c (L : Nat) (v : Value) (on : List Nat) (w : World) (hv : IntsAt w v on) (hL : L ≤ 2000) (hlen : on.length ≤ 400) (hon : ∀ x ∈ on, x < 2500) :
    Calls Tryf.prog 9 #[.agg #[.int .i64 L, v]] w fun e w' => ∃ s, e = .returned (.tuple #[s, .bool true]) ∧ SpecSet w' s (lenOf L on) (memOf on) true ∧ Kept [] w w' := by
  obtain ⟨i0, hi, hz0, hz1, hz2⟩ := info_parts Tryf.infoB
  have hN := lenOf_le L on 2500 (by omega) hon
  have hlt := lt_lenOf L on
  obtain ⟨N, hNe⟩ : ∃ N, lenOf L on = N := ⟨_, rfl⟩
  rw [hNe] at hN hlt ⊢
  have HN := Lib.hid hNe; clear hNe
  have HLT := Lib.hid hlt; clear hlt
  have hst : OfInv w ((((w.alloc (.cells #[.int .i64 L, v] 35)).alloc (.cells #[.slice none 0 0, .bool false] 28)).alloc (.cells (zrow (.bool false) N) 4)).alloc (.cells #[.slice (some ⟨w.heap.size + 1 + 1, 0, none⟩) N N, .bool true] 28)) N 0 on L v := by
    refine ⟨((((Kept.refl _ _).alloc _).alloc _).alloc _).alloc _, by simp, ?_, ?_, ?_, ?_⟩
    · exact alloc_heap_old (alloc_heap_old (alloc_heap_old (heap_alloc_new w _) _) _) _
    · have := alloc_heap_old (alloc_heap_old (heap_alloc_new (w.alloc (.cells #[.int .i64 L, v] 35)) (.cells #[.slice none 0 0, .bool false] 28)) (.cells (zrow (.bool false) N) 4)) (.cells #[.slice (some ⟨w.heap.size + 1 + 1, 0, none⟩) N N, .bool true] 28)
      simpa using this
    · have := heap_alloc_new (((w.alloc (.cells #[.int .i64 L, v] 35)).alloc (.cells #[.slice none 0 0, .bool false] 28)).alloc (.cells (zrow (.bool false) N) 4)) (.cells #[.slice (some ⟨w.heap.size + 1 + 1, 0, none⟩) N N, .bool true] 28)
      simpa using this
    · have := ((BRow.new ((w.alloc (.cells #[.int .i64 L, v] 35)).alloc (.cells #[.slice none 0 0, .bool false] 28)) N N (Nat.le_refl _)).alloc (.cells #[.slice (some ⟨w.heap.size + 1 + 1, 0, none⟩) N N, .bool true] 28)).congr (f' := memOf (on.take 0)) (fun j hj => by simp [memOf])
      simpa using this
  obtain ⟨ad, m, cp, rfl, hm⟩ : ∃ ad m cp, v = .slice ad m cp ∧ m = on.length := by
    rcases hv with ⟨ad, cp, h1, h2⟩ | ⟨b, o, cp, h1, h2⟩
    · exact ⟨ad, 0, cp, h1, by rw [h2]; rfl⟩
    · exact ⟨_, _, cp, h1, rfl⟩
  have hm400 : m ≤ 400 := by omega
  have hcell : ∀ k, k < m → ∃ b o, ad = some ⟨b, o, none⟩ ∧ w.cell? ⟨b, o + k, none⟩ = some (.int .i64 (on.getD k 0 : Nat)) := by
    intro k hk
    rcases hv with ⟨ad', cp', h1, h2⟩ | ⟨b, o, cp', h1, h2⟩
    · subst h2; simp at hm; omega
    · cases h1; exact ⟨b, o, rfl, h2 k (by omega)⟩
  have HC := Lib.hid hcell
  have HV := Lib.hid hv
  have HM := Lib.hid hm
  have HON := Lib.hid hon
  clear hcell hv hm hlen hon
  have d1 : ¬ (L : Int) < 0 := by omega
  have d2 : (L : Int) ≤ 2000 := by omega
  by_cases hm0 : m = 0
  · subst hm0
    obtain rfl : on = [] := List.eq_nil_of_length_eq_zero HM.out.symm
    have hNL : N = L := by rw [← HN.out]; rfl
    subst hNL
    clear HC HV HM HON HN HLT
    go_enter Tryf.func9, Tryf.ntmps9
    go_wp2
    refine wp_loop_rounds 1 ?_
    rw [rounds_succ]
    go_wp2_with (refine wpList_mk rfl (.tmp 46) (.tmp 46) 26 4 rfl i0 (.bool false) 1 Tryf.underlying26 hi hz0 hz1 hz2 rfl _ _ N N rfl rfl rfl rfl (Nat.le_refl _) (by omega) (by omega) ?_)
    go_loopw [52] (fun i wr => i = .int .i64 0 ∧ OfInv w wr N 0 [] N (.slice ad 0 cp)) (fun _ _ => 0)
    case atStart => exact ⟨rfl, hst⟩
    case round =>
      obtain ⟨rfl, hinv⟩ := hrel
      obtain ⟨c0, c1, z0, z1, s0, s1, e0, e1, hsp, hkp⟩ := hinv.end rfl
      clear hinv hst
      go_wp2
      exact bodyPost_ret (v := .tuple #[.agg #[.slice (some ⟨w.heap.size + 1 + 1, 0, none⟩) N N, .bool true], .bool true]) (by simp [results, Tryf.results9, go_sem, e0, e1]) rfl ⟨_, rfl, hsp, hkp⟩
  · obtain ⟨vb, off, rfl, _⟩ := HC.out 0 (by omega)
    have HC2 : Hid (∀ k, k < m → w.cell? ⟨vb, off + k, none⟩ = some (.int .i64 (on.getD k 0 : Nat))) := fun k hk => by
      obtain ⟨b, o, h1, h2⟩ := HC.out k hk
      cases h1; exact h2
    clear HC
    go_enter Tryf.func9, Tryf.ntmps9
    go_wp2
    go_loop [30, 4] (fun i nn => ∃ k : Nat, k ≤ m ∧ i = .int .i64 k ∧ nn = .int .i64 (lenOf L (on.take k) : Nat)) (fun i _ => m - (intOf i).toNat)
    case atStart => exact ⟨0, Nat.zero_le _, rfl, by simp [lenOf]⟩
    case round =>
      obtain ⟨k, hk, rfl, rfl⟩ := hrel
      by_cases hkm : k < m
      · have hc0 := HC2.out k hkm
        have hlk : k < on.length := by have := HM.out; omega
        have hx : on.getD k 0 < 2500 := by rw [getD_in _ _ _ hlk]; exact HON.out _ (List.getElem_mem hlk)
        have HT : Hid (lenOf L (on.take (k + 1)) = max (lenOf L (on.take k)) (on.getD k 0 + 1)) := by
          show _ = _
          rw [List.take_succ_eq_append_getElem hlk, lenOf_snoc, getD_in _ _ _ hlk]
        have hn0 := lenOf_le L (on.take k) 2500 (by omega) (fun x hx => HON.out x (List.mem_of_mem_take hx))
        have hblt := World.block_lt_of_cell? _ _ hc0
        generalize on.getD k 0 = x at *
        generalize lenOf L (on.take k) = y at *
        by_cases hyx : y < x + 1
        · have e1 : (y : Int) < (x : Int) + 1 := by omega
          go_wp2
          go_round
          case rel => exact ⟨k + 1, by omega, by go_num, by rw [HT.out, Nat.max_eq_right (by omega)]; go_num⟩
          case measure => simp [intOf]; omega
        · have e1 : ¬ (y : Int) < (x : Int) + 1 := by omega
          go_wp2
          go_round
          case rel => exact ⟨k + 1, by omega, by go_num, by rw [HT.out, Nat.max_eq_left (by omega)]⟩
          case measure => simp [intOf]; omega
      · have hkn : on.take k = on := List.take_of_length_le (by have := HM.out; omega)
        rw [hkn, HN.out]
        clear hkn
        go_wp2_with (refine wpList_mk rfl (.tmp 46) (.tmp 46) 26 4 rfl i0 (.bool false) 1 Tryf.underlying26 hi hz0 hz1 hz2 rfl _ _ N N rfl rfl rfl rfl (Nat.le_refl _) (by omega) (by omega) ?_)
        go_loopw [52] (fun i wr => ∃ k : Nat, k ≤ m ∧ i = .int .i64 k ∧ OfInv w wr N k on L (.slice (some ⟨vb, off, none⟩) m cp)) (fun i _ => m - (intOf i).toNat)
        case atStart => exact ⟨0, Nat.zero_le _, rfl, hst⟩
        case round =>
          obtain ⟨k, hk, rfl, hinv⟩ := hrel
          by_cases hkm : k < m
          · have hlk : k < on.length := by have := HM.out; omega
            have hcx := hinv.1.cell (by simp) (HC2.out k hkm)
            have hxN : on.getD k 0 < N := by rw [getD_in _ _ _ hlk]; exact HLT.out _ (List.getElem_mem hlk)
            have R := hinv.step hlk hxN
            have g5 := hinv.2.2.2.2.1
            have s0 : wr.cell? ⟨w.heap.size + 1 + 1 + 1, 0, none⟩ = some (.slice (some ⟨w.heap.size + 1 + 1, 0, none⟩) N N) := (cell_of_heap g5).trans rfl
            obtain ⟨u, hu⟩ := hinv.2.2.2.2.2.any _ hxN
            have hz := hinv.2.2.2.2.2.free (on.getD k 0)
            clear g5 hinv
            generalize on.getD k 0 = x at *
            go_wp2
            go_roundw
            case rel => exact ⟨k + 1, by omega, by go_num, R⟩
            case measure => simp [intOf]; omega
          · obtain ⟨c0, c1, z0, z1, s0, s1, e0, e1, hsp, hkp⟩ := hinv.end (List.take_of_length_le (by have := HM.out; omega))
            clear hinv hst
            go_wp2
            exact bodyPost_ret (v := .tuple #[.agg #[.slice (some ⟨w.heap.size + 1 + 1, 0, none⟩) N N, .bool true], .bool true]) (by simp [results, Tryf.results9, go_sem, e0, e1]) rfl ⟨_, rfl, hsp, hkp⟩

end Go.Proofs.YthogmlblppcjoaaFmt

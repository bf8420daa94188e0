/-
  The contracts of FromWithLength and build, for sets of at most 20000 bits.
-/
import Derived.Test.YthogmlblppcjoaaFmtOne
import Derived.Test.YthogmlblppcjoaaFmtTold
namespace Go.Proofs.YthogmlblppcjoaaFmt
set_option linter.unusedSimpArgs false
set_option linter.unusedVariables false
open Go.RowKit

set_option maxHeartbeats 400000 in
theorem fwl_c (n m cap : Nat) (ad : Option Addr) (w : World) (hn : n ≤ 20000) (hm : (n + 63) / 64 ≤ m) :
    Calls Tryf.prog 12 #[.int .u64 n, .slice ad m cap] w fun e w' => e = .returned (.pointer (some ⟨w.heap.size, 0, none⟩)) ∧ w' = w.alloc (.cells #[.int .u64 n, .slice ad m cap] 44) := by
  have hd : ¬ (m : Int) < ((n : Int) + 63) / 64 := by omega
  go_enter Tryf.func12, Tryf.ntmps12
  go_wp2_with (go_at_call 17; refine (wordsNeeded_c _ (by omega) (by omega) _).mono ?_; rintro e w' ⟨rfl, rfl⟩)
  go_ret
  exact ⟨rfl, rfl⟩

/-- A slice value reads as these numbers. -/
def IntsAt (w : World) (v : Value) (l : List Nat) : Prop :=
  (∃ ad cap, v = .slice ad 0 cap ∧ l = []) ∨ (∃ b off cap, v = .slice (some ⟨b, off, none⟩) l.length cap ∧ ∀ j, j < l.length → w.cell? ⟨b, off + j, none⟩ = some (.int .i64 (l.getD j 0 : Nat)))
theorem IntsAt.kept {w w' : World} {v : Value} {l : List Nat} (h : IntsAt w v l) (k : Kept [] w w') : IntsAt w' v l := by
  rcases h with h | ⟨b, off, cap, rfl, hc⟩
  · exact .inl h
  · exact .inr ⟨b, off, cap, rfl, fun j hj => k.cell (by simp) (hc j hj)⟩
theorem IntsAt.of_owns {w : World} {B : Nat} {v : Value} {l : List Nat} (h : w.ownsRow B 3 1 v l.length (intsOf l)) : IntsAt w v l := by
  have h0 := h
  obtain ⟨_, hcase⟩ := h
  rcases hcase with ⟨rfl, h1⟩ | ⟨g, cap', cur, rfl, _⟩
  · exact .inl ⟨_, _, rfl, List.eq_nil_of_length_eq_zero h1⟩
  · refine .inr ⟨g, 0, cap', rfl, fun j hj => ?_⟩
    rw [Nat.zero_add, h0.cellAt j (by omega)]
    simp [intsOf, hj]

def lenOf (L : Nat) (on : List Nat) : Nat := on.foldl (fun n i => max n (i + 1)) L
def memOf (on : List Nat) (j : Nat) : Bool := decide (j ∈ on)
theorem lenOf_snoc (L : Nat) (on : List Nat) (x : Nat) : lenOf L (on ++ [x]) = max (lenOf L on) (x + 1) := by simp [lenOf]
theorem memOf_snoc (on : List Nat) (x j : Nat) : memOf (on ++ [x]) j = ((j == x) || memOf on j) := by
  unfold memOf
  by_cases h : j = x <;> by_cases h2 : j ∈ on <;> simp [h, h2]
theorem lenOf_le (L : Nat) (on : List Nat) (M : Nat) (hL : L ≤ M) (h : ∀ x ∈ on, x < M) : lenOf L on ≤ M := by
  unfold lenOf
  induction on generalizing L with
  | nil => exact hL
  | cons a r ih => exact ih (max L (a + 1)) (by have := h a (by simp); omega) (fun x hx => h x (by simp [hx]))
theorem le_lenOf (L : Nat) (on : List Nat) : L ≤ lenOf L on := by
  unfold lenOf
  induction on generalizing L with
  | nil => exact Nat.le_refl _
  | cons a r ih => exact Nat.le_trans (Nat.le_max_left _ _) (ih (max L (a + 1)))
theorem lt_lenOf (L : Nat) (on : List Nat) : ∀ x ∈ on, x < lenOf L on := by
  unfold lenOf
  induction on generalizing L with
  | nil => intro x hx; cases hx
  | cons a r ih =>
    intro x hx
    rcases List.mem_cons.1 hx with rfl | hx
    · exact Nat.lt_of_lt_of_le (by omega) (le_lenOf (max L (x + 1)) r)
    · exact ih (max L (a + 1)) x hx
theorem memOf_len (L : Nat) (on : List Nat) (j : Nat) : (decide (j < lenOf L on) && memOf on j) = memOf on j := by
  unfold memOf
  by_cases h : j ∈ on
  · simp [h, lt_lenOf L on j h]
  · simp [h]

theorem WordsOk.zeros (n : Nat) : WordsOk (List.replicate ((n + 63) / 64) 0) n (memOf []) := by
  refine WordsOk.mk' (by simp) (fun k => ?_) (fun k t ht hk => ?_)
  · rw [List.getD_eq_getElem?_getD, List.getElem?_replicate]; split <;> simp
  · rw [List.getD_eq_getElem?_getD, List.getElem?_replicate]; simp [memOf]; split <;> simp

/-- The loop of build: so many of the numbers are set. -/
def BuildInv (w wr : World) (b L k : Nat) (on : List Nat) : Prop :=
  Kept [] w wr ∧ w.heap.size ≤ b ∧ ∃ g, w.heap.size ≤ g ∧ BSet wr b g (lenOf L (on.take k)) (memOf (on.take k))

theorem BuildInv.drew {w wr : World} {b L k : Nat} {on : List Nat} (h : BuildInv w wr b L k on) : BuildInv w wr.drew b L k on := by
  obtain ⟨h1, h2, g, h3, h4⟩ := h
  exact ⟨h1.drew, h2, g, h3, h4⟩

set_option maxHeartbeats 1000000 in
theorem build_c (L : Nat) (v : Value) (on : List Nat) (w : World) (hv : IntsAt w v on) (hL : L ≤ 20000) (hon : ∀ x ∈ on, x < 20000) (hlen : on.length ≤ 1000000) :
    Calls Tryf.prog 10 #[.agg #[.int .i64 L, v]] w fun e w' => ∃ b g, e = .returned (.pointer (some ⟨b, 0, none⟩)) ∧ BSet w' b g (lenOf L on) (memOf on) ∧ w.heap.size ≤ b ∧ w.heap.size ≤ g ∧ Kept [] w w' := by
  obtain ⟨i0, hi0, hz0, hz1, hz2⟩ := info_parts Tryf.infoU
  have w1 : IntKind.i64.wrap ((L : Int) + 63) = (L : Int) + 63 := IntWalk.i64_in _ (by omega)
  have w2 : IntKind.u64.wrap (L : Int) = (L : Int) := IntWalk.u64_in _ (by omega)
  obtain ⟨M, hM⟩ : ∃ M, (L + 63) / 64 = M := ⟨_, rfl⟩
  have hM1 : (L + 63) / 64 ≤ M := by omega
  have w3 : IntKind.i64.wrap (((L : Int) + 63).tdiv 64) = (M : Int) := by rw [IntWalk.i64_quo _ _ (by omega)]; omega
  have hmk := fun (w : World) => run_mk (P := Tryf.prog) 41 51 i0 (.int .u64 0) 8 Tryf.underlying41 hi0 hz0 hz1 hz2 rfl (M : Int) (M : Int) M M rfl rfl (Nat.le_refl _) (by omega) (by omega) w
  have HM := Lib.hid hM; clear hM
  have hst : BuildInv w (((w.alloc (.cells #[.int .i64 L, v] 24)).alloc (.cells (zrow (.int .u64 0) M) 51)).alloc (.cells #[.int .u64 L, .slice (some ⟨w.heap.size + 1, 0, none⟩) M M] 44)) (w.heap.size + 1 + 1) L 0 on := by
    refine ⟨(((Kept.refl _ _).alloc _).alloc _).alloc _, by omega, w.heap.size + 1, by omega, by omega, M, List.replicate M 0, ?_, ?_, ?_⟩
    · have := heap_alloc_new ((w.alloc (.cells #[.int .i64 L, v] 24)).alloc (.cells (zrow (.int .u64 0) M) 51)) (.cells #[.int .u64 L, .slice (some ⟨w.heap.size + 1, 0, none⟩) M M] 44)
      rw [List.length_replicate]
      simpa [Hdr, lenOf] using this
    · have := (URow.new (w.alloc (.cells #[.int .i64 L, v] 24)) M M (Nat.le_refl _)).alloc (.cells #[.int .u64 L, .slice (some ⟨w.heap.size + 1, 0, none⟩) M M] 44)
      simpa using this
    · have := WordsOk.zeros L
      rw [HM.out] at this
      exact this
  have hst := hst.drew
  rcases hv with ⟨ad, cp, rfl, rfl⟩ | ⟨vb, off, cp, rfl, hc⟩
  · go_enter Tryf.func10, Tryf.ntmps10
    go_wp2
    go_region_with (go_at_call 12; refine (fwl_c L _ _ _ _ hL hM1).mono ?_; rintro e w' ⟨rfl, rfl⟩)
    all_goals
      go_wp2
      refine wp_loop_rounds 1 ?_
      rw [rounds_succ]
      go_wp2
      go_ret
      obtain ⟨k1, k2, g, k3, k4⟩ := hst
      exact ⟨_, g, rfl, k4, k2, k3, k1⟩
  · go_enter Tryf.func10, Tryf.ntmps10
    go_wp2
    go_region_with (go_at_call 12; refine (fwl_c L _ _ _ _ hL hM1).mono ?_; rintro e w' ⟨rfl, rfl⟩)
    all_goals
      go_wp2
      go_loopw [18] (fun i wr => ∃ k : Nat, k ≤ on.length ∧ i = .int .i64 k ∧ BuildInv w wr (w.heap.size + 1 + 1) L k on) (fun i _ => on.length - (intOf i).toNat)
      case atStart => exact ⟨0, Nat.zero_le _, rfl, hst⟩
      case round =>
        obtain ⟨k, hk, rfl, hinv⟩ := hrel
        by_cases hkl : k < on.length
        · have hx := hinv.1.cell (by simp) (hc k hkl)
          have hxl : on.getD k 0 < 20000 := by rw [getD_in _ _ _ hkl]; exact hon _ (List.getElem_mem hkl)
          have htk : on.take (k + 1) = on.take k ++ [on.getD k 0] := by rw [List.take_succ_eq_append_getElem hkl, getD_in _ _ _ hkl]
          obtain ⟨i1, i2, g, i3, i4⟩ := hinv
          have hln := lenOf_le L (on.take k) 20000 hL (fun x hx => hon x (List.mem_of_mem_take hx))
          generalize on.getD k 0 = x at *
          have HT := Lib.hid htk; clear htk
          go_wp2_with (go_at_call 13; refine (set_c _ g _ x _ _ i4 (by omega) (by omega)).mono ?_; rintro e w1 ⟨rfl, g', j1, j2, j3⟩)
          go_roundw
          case rel =>
            refine ⟨k + 1, by omega, by go_num, i1.trans j3 (fun q hq => by right; simp at hq; omega), i2, g', by rcases j2 with h | h; omega; have := i1.size; omega, ?_⟩
            rw [HT.out, lenOf_snoc]
            refine j1.congr fun j _ => ?_
            rw [memOf_snoc, memOf_len]
          case measure => simp [intOf]; omega
        · have hkn : k = on.length := by omega
          subst hkn
          go_wp2
          go_ret
          obtain ⟨k1, k2, g, k3, k4⟩ := hinv
          rw [List.take_length] at k4
          exact ⟨_, g, rfl, k4, k2, k3, k1⟩

end Go.Proofs.YthogmlblppcjoaaFmt

/-
  The contracts of the reference's On and From, for sets of at most 20000 bits.
-/
import Derived.Test.YtiaghdnhapiioaaSpec
namespace Go.Proofs.Ytiaghdnhapiioaa
set_option linter.unusedSimpArgs false
set_option linter.unusedVariables false
open Go.RowKit

/-- The loop of On. -/
def OnInv (w wr : World) (k : Nat) (f : Nat → Bool) (v : Value) : Prop :=
  Kept [] w wr ∧ w.heap.size + 1 ≤ wr.heap.size ∧ wr.ownsRow (w.heap.size + 1) 3 1 v (onL k f).length (intsOf (onL k f))

set_option maxHeartbeats 1000000 in
theorem on_c (s : Value) (n : Nat) (f : Nat → Bool) (t : Bool) (w : World) (h : SpecSet w s n f t) (hn : n ≤ 20000) :
    Calls Try.prog 27 #[s] w fun e w' => ∃ v, e = .returned v ∧ w'.ownsRow (w.heap.size + 1) 3 1 v (onL n f).length (intsOf (onL n f)) ∧ Kept [] w w' := by
  obtain ⟨b, c, rfl, hr⟩ := h
  obtain ⟨i0, hi, hz0, hz1, hz2⟩ := info_parts Try.info3
  have hst : OnInv w ((w.alloc (.cells #[.slice (some ⟨b, 0, none⟩) n c, .bool t] 28)).alloc (.cells #[] 3)) 0 f (.slice (some ⟨w.heap.size + 1, 0, none⟩) 0 0) := by
    refine ⟨((Kept.refl _ _).alloc _).alloc _, by simp, ?_⟩
    have := World.ownsRow_made (w.alloc (.cells #[.slice (some ⟨b, 0, none⟩) n c, .bool t] 28)) (base := w.heap.size + 1) (e := 3) (size := 1) #[] 0 (by simp) (by unfold maxLen; omega) rfl
    simpa [onL, intsOf] using this
  have hle := hr.le
  go_enter Try.func27, Try.ntmps27
  go_wp2
  go_loopw [3, 10] (fun v i wr => ∃ k : Nat, k ≤ n ∧ i = .int .i64 k ∧ OnInv w wr k f v) (fun _ i _ => n - (intOf i).toNat)
  case atStart => exact ⟨0, Nat.zero_le _, rfl, hst⟩
  case round =>
    obtain ⟨k, hk, rfl, hinv⟩ := hrel
    have hown := hinv.2.2
    have hl := onL_le k f
    have hsz := hinv.2.1
    by_cases hlt : k < n
    · have hcx := (hr.kept hinv.1 (by simp)).cell k hlt
      cases hfk : f k with
      | true =>
        rw [hfk] at hcx
        go_wp2_with (at_builtin; refine wpList_append_own _ rfl _ _ 22 rfl (w.heap.size + 1) 3 i0 (.int .i64 0) 1 8 Try.underlying22 hi hz0 hz1 hz2 rfl (by decide) _ _ _ rfl (World.ownsRow.alloc hown _) ⟨wr.heap.size, 0, none⟩ 1 1 [.int .i64 k] rfl rfl ?c1 ?c2 ?c3 ?c4 ?c5 ?_)
        case c1 => exact cell_one_new _ _ _
        case c2 => intro u hu; simp at hu; subst hu; rfl
        case c3 => unfold maxLen; omega
        case c4 => omega
        case c5 => simp; omega
        intro v' w1 hown' hgrow _
        have R : OnInv w w1 (k + 1) f v' := by
          refine ⟨(hinv.1.alloc _).grown hgrow (fun j hj => by have := (hown.lt j hj).1; right; omega), by have := hgrow.size; simp at this; omega, ?_⟩
          rw [onL_yes hfk]
          have e : intsOf (onL k f ++ [k]) = intsOf (onL k f) ++ [.int .i64 k] := by simp [intsOf]
          rw [e, List.length_append]; exact hown'
        clear hown' hgrow hown hcx
        go_wp2
        go_roundw
        case rel => exact ⟨k + 1, by omega, by go_num, R⟩
        case measure => simp [intOf]; omega
      | false =>
        rw [hfk] at hcx
        have R : OnInv w wr (k + 1) f u3 := ⟨hinv.1, hinv.2.1, by rw [onL_no hfk]; exact hown⟩
        go_wp2
        go_roundw
        case rel => exact ⟨k + 1, by omega, by go_num, R⟩
        case measure => simp [intOf]; omega
    · have hkn : k = n := by omega
      subst hkn
      go_wp2
      go_ret
      exact ⟨_, rfl, hown, hinv.1⟩

/-- The loop of From. -/
def FromInv (w wr : World) (n k : Nat) (f : Nat → Bool) : Prop :=
  Kept [] w wr ∧ w.heap.size + 3 ≤ wr.heap.size ∧ wr.heap[w.heap.size]? = some (.cells #[.slice none 0 0, .bool false] 28 (0, 0)) ∧
  wr.heap[w.heap.size + 1 + 1]? = some (.cells #[.slice (some ⟨w.heap.size + 1, 0, none⟩) n n, .bool true] 28 (0, 0)) ∧ BRow wr (w.heap.size + 1) n k f
theorem FromInv.kept {w wr w1 : World} {n k : Nat} {f : Nat → Bool} (h : FromInv w wr n k f) (q : Kept [] wr w1) : FromInv w w1 n k f := by
  obtain ⟨h1, h2, h3, h4, h5⟩ := h
  exact ⟨h1.trans0 q, by have := q.size; omega, q.heap (by simp) h3, q.heap (by simp) h4, h5.kept q (by simp)⟩
theorem FromInv.step {w wr : World} {n k : Nat} {f : Nat → Bool} (h : FromInv w wr n k f) (hk : k < n) : FromInv w (wr.setCell ⟨w.heap.size + 1, k, none⟩ (.bool (f k))) n (k + 1) f := by
  obtain ⟨h1, h2, h3, h4, h5⟩ := h
  exact ⟨h1.setCell (by right; simp) _, by simp [World.setCell]; omega, setCell_heap_other h3 (by omega) _, setCell_heap_other h4 (by omega) _, h5.push hk⟩

set_option maxHeartbeats 1000000 in
theorem from_c (n : Nat) (m : Int) (hm : m = n) (fn : Nat) (F C : Array Value) (f : Nat → Bool) (w : World) (hn : n ≤ 20000)
    (hcf : ∀ (args : Array Value) (w : World), (callFunc fn args).run Try.prog w = .ok (.enter fn args) w)
    (hcl : ∀ (i : Nat) (w' : World), i < n → Kept [] w w' → Calls Try.prog fn (F.push (.int .i64 i) ++ C) w' fun e w'' => e = .returned (.bool (f i)) ∧ Kept [] w' w'') :
    Calls Try.prog 21 #[.int .i64 m, .func (.func fn) F C] w fun e w' => ∃ b, e = .returned (.agg #[.slice (some ⟨b, 0, none⟩) n n, .bool true]) ∧ BRow w' b n n f ∧ w.heap.size ≤ b ∧ Kept [] w w' := by
  subst hm
  obtain ⟨i0, hi, hz0, hz1, hz2⟩ := info_parts Try.infoB
  have hst : FromInv w (((w.alloc (.cells #[.slice none 0 0, .bool false] 28)).alloc (.cells (zrow (.bool false) n) 4)).alloc (.cells #[.slice (some ⟨w.heap.size + 1, 0, none⟩) n n, .bool true] 28)) n 0 f := by
    refine ⟨(((Kept.refl _ _).alloc _).alloc _).alloc _, by simp, ?_, ?_, ?_⟩
    · exact alloc_heap_old (alloc_heap_old (heap_alloc_new w _) _) _
    · have := heap_alloc_new ((w.alloc (.cells #[.slice none 0 0, .bool false] 28)).alloc (.cells (zrow (.bool false) n) 4)) (.cells #[.slice (some ⟨w.heap.size + 1, 0, none⟩) n n, .bool true] 28)
      simpa using this
    · have := ((BRow.new (w.alloc (.cells #[.slice none 0 0, .bool false] 28)) n 0 (Nat.zero_le _)).alloc (.cells #[.slice (some ⟨w.heap.size + 1, 0, none⟩) n n, .bool true] 28)).congr (f' := f) (fun j hj => by omega)
      simpa using this
  have HC := Lib.hid hcl; clear hcl
  go_enter Try.func21, Try.ntmps21
  go_wp2_with (refine wpList_mk rfl (.tmp 7) (.tmp 7) 26 4 rfl i0 (.bool false) 1 Try.underlying26 hi hz0 hz1 hz2 rfl _ _ n n rfl rfl rfl rfl (Nat.le_refl _) (by omega) (by omega) ?_)
  go_loopw [13] (fun v wr => ∃ k : Nat, k ≤ n ∧ v = .int .i64 k ∧ FromInv w wr n k f) (fun v _ => n - (intOf v).toNat)
  case atStart => exact ⟨0, Nat.zero_le _, rfl, hst⟩
  case round =>
    obtain ⟨k, hk, rfl, hinv⟩ := hrel
    have hbx := hinv.2.2.2.1
    have hb0 : wr.cell? ⟨w.heap.size + 1 + 1, 0, none⟩ = some (.slice (some ⟨w.heap.size + 1, 0, none⟩) n n) := by rw [cell_of_heap hbx]; rfl
    by_cases hlt : k < n
    · have q0 : Kept [] wr wr.drew := (Kept.refl _ _).drew
      have hbx2 : wr.drew.heap[w.heap.size + 1 + 1]? = some (.cells #[.slice (some ⟨w.heap.size + 1, 0, none⟩) n n, .bool true] 28 (0, 0)) := hbx
      have hrow2 : BRow wr.drew (w.heap.size + 1) n k f := hinv.2.2.2.2
      have hk1 : Kept [] w wr.drew := hinv.1.drew
      clear hbx
      have i1 : (0 : Int) ≤ (k : Int) := by omega
      have i2 : (k : Int) < (n : Int) := by omega
      go_wp2
      go_region_with ((with_reducible refine (HC.out k wr.drew hlt hk1).mono ?_); rintro e w1 ⟨rfl, q1⟩; have g1 := q1.heap (by simp) hbx2; have g2 : w1.cell? ⟨w.heap.size + 1 + 1, 0, none⟩ = some (.slice (some ⟨w.heap.size + 1, 0, none⟩) n n) := (cell_of_heap g1).trans rfl; have r1 := hrow2.kept q1 (by simp); have f1 := r1.free k; obtain ⟨u1, c1⟩ := r1.any k hlt)
      all_goals
        go_wp2
        go_roundw
        case rel => exact ⟨k + 1, by omega, by go_num, (hinv.kept (q0.trans0 q1)).step hlt⟩
        case measure => simp [intOf]; omega
    · have hkn : k = n := by omega
      subst hkn
      have hR0 := hinv.2.2.1
      have hr0 : wr.cell? ⟨w.heap.size, 0, none⟩ = some (.slice none 0 0) := by rw [cell_of_heap hR0]; rfl
      have hr1 : wr.cell? ⟨w.heap.size, 1, none⟩ = some (.bool false) := by rw [cell_of_heap hR0]; rfl
      have hz0' : wr.frozen? ⟨w.heap.size, 0, none⟩ = false := free_of_heap hR0
      have hz1' : wr.frozen? ⟨w.heap.size, 1, none⟩ = false := free_of_heap hR0
      have hb1 : wr.cell? ⟨w.heap.size + 1 + 1, 1, none⟩ = some (.bool true) := by rw [cell_of_heap hbx]; rfl
      clear hR0 hbx
      have hkp := hinv.1
      have hrow := hinv.2.2.2.2
      clear hinv
      have q1 : ((wr.setCell ⟨w.heap.size, 0, none⟩ (.slice (some ⟨w.heap.size + 1, 0, none⟩) k k)).setCell ⟨w.heap.size, 1, none⟩ (.bool true)).cell? ⟨w.heap.size, 1, none⟩ = some (.bool true) :=
        World.cell?_setCell_same _ _ _ ((World.cell?_setCell_other _ _ _ _ (by simp)).trans hr1)
      have q0 : ((wr.setCell ⟨w.heap.size, 0, none⟩ (.slice (some ⟨w.heap.size + 1, 0, none⟩) k k)).setCell ⟨w.heap.size, 1, none⟩ (.bool true)).cell? ⟨w.heap.size, 0, none⟩ = some (.slice (some ⟨w.heap.size + 1, 0, none⟩) k k) :=
        (World.cell?_setCell_other _ _ _ _ (by simp)).trans (World.cell?_setCell_same _ _ _ hr0)
      go_wp2
      refine bodyPost_ret (v := .agg #[.slice (some ⟨w.heap.size + 1, 0, none⟩) k k, .bool true]) (by simp [results, Try.results21, go_sem, q0, q1]) rfl ⟨_, rfl, ?_, ?_, ?_⟩
      · exact (hrow.other (by omega) _).other (by omega) _
      · omega
      · exact (hkp.setCell (by right; simp) _).setCell (by right; simp) _

end Go.Proofs.Ytiaghdnhapiioaa

/-
  The contracts of the reference's least and top: a set's bits up to the greatest one that is set; for sets of at most 20000 bits.
-/
import Derived.Test.YtiaghdnhapiioaaDo
namespace Go.Proofs.Ytiaghdnhapiioaa
set_option linter.unusedSimpArgs false
set_option linter.unusedVariables false
open Go.RowKit


/-- One past the greatest place below n where f holds. -/
def lst (f : Nat → Bool) : Nat → Nat
  | 0 => 0
  | n + 1 => if f n then n + 1 else lst f n
theorem lst_le (f : Nat → Bool) (n : Nat) : lst f n ≤ n := by
  induction n with
  | zero => exact Nat.le_refl _
  | succ n ih => unfold lst; split <;> omega
theorem lst_out (f : Nat → Bool) (n j : Nat) (h1 : lst f n ≤ j) (h2 : j < n) : f j = false := by
  induction n with
  | zero => omega
  | succ n ih =>
    unfold lst at h1
    cases hf : f n with
    | true => rw [hf] at h1; simp at h1; omega
    | false =>
      rw [hf] at h1
      by_cases e : j = n
      · rw [e]; exact hf
      · exact ih (by simpa using h1) (by omega)
theorem lst_top (f : Nat → Bool) (n : Nat) (h : 0 < lst f n) : f (lst f n - 1) = true := by
  induction n with
  | zero => simp [lst] at h
  | succ n ih =>
    unfold lst at h ⊢
    cases hf : f n with
    | true => simpa using hf
    | false => rw [hf] at h; simp at h ⊢; exact ih h
theorem onL_ext (m n : Nat) (f g : Nat → Bool) (hmn : m ≤ n) (h1 : ∀ j, j < m → f j = g j) (h2 : ∀ j, m ≤ j → j < n → g j = false) : onL m f = onL n g := by
  induction n with
  | zero =>
    obtain rfl : m = 0 := by omega
    simp [onL]
  | succ n ih =>
    by_cases e : m = n + 1
    · subst e
      unfold onL
      exact List.filter_congr fun j hj => h1 j (List.mem_range.1 hj)
    · rw [onL_no (h2 n (by omega) (by omega))]
      exact ih (by omega) (fun j hj hj2 => h2 j hj (by omega))
theorem onL_lst (f : Nat → Bool) (n : Nat) : onL (lst f n) f = onL n f := onL_ext _ _ _ _ (lst_le f n) (fun _ _ => rfl) (lst_out f n)
/-- The bits of two sets whose lengths differ, alike where either has one. -/
theorem onL_both (m n : Nat) (f g : Nat → Bool) (h : ∀ j, (decide (j < m) && f j) = (decide (j < n) && g j)) : onL m f = onL n g := by
  by_cases hmn : m ≤ n
  · refine onL_ext m n f g hmn (fun j hj => ?_) (fun j hj hj2 => ?_)
    · have := h j; rw [show decide (j < m) = true by simpa using hj, show decide (j < n) = true by simp; omega] at this; simpa using this
    · have := h j; rw [show decide (j < m) = false by simpa using hj, show decide (j < n) = true by simp; omega] at this; simpa using this.symm
  · refine (onL_ext n m g f (by omega) (fun j hj => ?_) (fun j hj hj2 => ?_)).symm
    · have := h j; rw [show decide (j < m) = true by simp; omega, show decide (j < n) = true by simpa using hj] at this; simpa using this.symm
    · have := h j; rw [show decide (j < n) = false by simpa using hj, show decide (j < m) = true by simp; omega] at this; simpa using this

theorem box2A {wr : World} {R : Nat} {x y : Value} {T : TypeId} (h : wr.heap[R]? = some (.cells #[x, y] T (0, 0))) (u0 u1 : Value) (o : Obj) :
    (((wr.setCell ⟨R, 0, none⟩ u0).setCell ⟨R, 1, none⟩ u1).alloc o).cell? ⟨R, 0, none⟩ = some u0 ∧ (((wr.setCell ⟨R, 0, none⟩ u0).setCell ⟨R, 1, none⟩ u1).alloc o).cell? ⟨R, 1, none⟩ = some u1 := by
  have g := alloc_heap_old (setCell_heap_same (o := 1) (setCell_heap_same (o := 0) h u0) u1) o
  exact ⟨(cell_of_heap g).trans rfl, (cell_of_heap g).trans rfl⟩

set_option maxHeartbeats 1000000 in
theorem least_c (s : Value) (n : Nat) (f : Nat → Bool) (t : Bool) (w : World) (h : SpecSet w s n f t) (hn : n ≤ 20000) :
    Calls Try.prog 30 #[s] w fun e w' => ∃ s', e = .returned s' ∧ SpecSet w' s' (lst f n) f false ∧ Kept [] w w' := by
  obtain ⟨b, c, rfl, hr⟩ := h
  have hle := hr.le
  have hblt := hr.lt
  have k0 : Kept [] w ((w.alloc (.cells #[.slice (some ⟨b, 0, none⟩) n c, .bool t] 28)).alloc (.cells #[.slice none 0 0, .bool false] 28)) := ((Kept.refl _ _).alloc _).alloc _
  have hr0 := hr.kept k0 (by simp)
  have g0 : ((w.alloc (.cells #[.slice (some ⟨b, 0, none⟩) n c, .bool t] 28)).alloc (.cells #[.slice none 0 0, .bool false] 28)).heap[w.heap.size]? = some (.cells #[.slice (some ⟨b, 0, none⟩) n c, .bool t] 28 (0, 0)) := alloc_heap_old (heap_alloc_new w _) _
  have g1 : ((w.alloc (.cells #[.slice (some ⟨b, 0, none⟩) n c, .bool t] 28)).alloc (.cells #[.slice none 0 0, .bool false] 28)).heap[w.heap.size + 1]? = some (.cells #[.slice none 0 0, .bool false] 28 (0, 0)) := by
    have := heap_alloc_new (w.alloc (.cells #[.slice (some ⟨b, 0, none⟩) n c, .bool t] 28)) (.cells #[.slice none 0 0, .bool false] 28)
    simpa using this
  go_enter Try.func30, Try.ntmps30
  go_wp2_with fail
  generalize ((w.alloc (.cells #[.slice (some ⟨b, 0, none⟩) n c, .bool t] 28)).alloc (.cells #[.slice none 0 0, .bool false] 28)) = W at *
  obtain ⟨x0, x1, _, _, _, _⟩ := box2 g0 (.bool true) (.bool true)
  go_loop [3, 9] (fun v i => ∃ k : Nat, k ≤ n ∧ i = .int .i64 k ∧ v = .int .i64 (lst f k : Nat)) (fun _ i => n - (intOf i).toNat)
  case atStart => exact ⟨0, Nat.zero_le _, rfl, rfl⟩
  case round =>
    obtain ⟨k, hk, rfl, rfl⟩ := hrel
    by_cases hlt : k < n
    · have hcx := hr0.cell k hlt
      cases hfk : f k with
      | true =>
        rw [hfk] at hcx
        go_wp2
        go_round
        case rel => exact ⟨k + 1, by omega, by go_num, by unfold lst; rw [hfk]; go_num⟩
        case measure => simp [intOf]; omega
      | false =>
        rw [hfk] at hcx
        go_wp2
        go_round
        case rel => exact ⟨k + 1, by omega, by go_num, by simp [lst, hfk]⟩
        case measure => simp [intOf]; omega
    · have hkn : k = n := by omega
      subst hkn
      have hq := lst_le f k
      obtain ⟨q, hqe⟩ : ∃ q, lst f k = q := ⟨_, rfl⟩
      rw [hqe] at hq ⊢
      have HQ := Lib.hid hqe; clear hqe
      obtain ⟨y0, y1, y2, y3, y4, y5⟩ := box2 g1 (.slice (some ⟨b, 0, none⟩) q c) (.bool false)
      go_wp2
      refine bodyPost_ret (v := .agg #[.slice (some ⟨b, 0, none⟩) q c, .bool false]) (by simp [results, Try.results30, go_sem, y4, y5]) rfl ⟨_, rfl, ?_, (k0.setCell (by right; simp) _).setCell (by right; simp) _⟩
      have hbn : b ≠ w.heap.size + 1 := by omega
      rw [HQ.out]
      exact ⟨b, c, rfl, (((hr0.mono hq).other hbn _).other hbn _)⟩

set_option maxHeartbeats 1000000 in
theorem top_c (s : Value) (n : Nat) (f : Nat → Bool) (t : Bool) (w : World) (h : SpecSet w s n f t) (hn : n ≤ 20000) :
    Calls Try.prog 32 #[s] w fun e w' => e = .returned (.int .i64 ((lst f n : Int) - 1)) ∧ Kept [] w w' := by
  obtain ⟨b, c, rfl⟩ := h.shape
  have k0 : Kept [] w (w.alloc (.cells #[.slice (some ⟨b, 0, none⟩) n c, .bool t] 28)) := (Kept.refl _ _).alloc _
  have hq := lst_le f n
  obtain ⟨q, hqe⟩ : ∃ q, lst f n = q := ⟨_, rfl⟩
  rw [hqe] at hq ⊢
  have HQ := Lib.hid hqe; clear hqe
  have hfd : ∀ (a : Option Addr) (n c : Nat) (x : Bool) (w : World), (Instr.field 28 (.agg #[.slice a n c, .bool x]) 0).run Try.prog w = .ok (.slice a n c) w := fun _ _ _ _ _ => by kernel_rfl
  go_enter Try.func32, Try.ntmps32
  go_wp2_with fail
  refine (least_c _ n f t _ (h.kept k0) hn).mono ?_
  rintro e w1 ⟨s', rfl, hs, k1⟩
  obtain ⟨b', c', rfl⟩ := hs.shape
  clear hs
  rw [HQ.out]
  go_wp2_with fail
  go_ret
  exact ⟨rfl, k0.trans0 k1⟩

end Go.Proofs.Ytiaghdnhapiioaa

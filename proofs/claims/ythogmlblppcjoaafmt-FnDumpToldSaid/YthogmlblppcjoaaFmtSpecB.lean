/-
  The contracts of the reference's On and From, for sets of at most 20000 bits.
-/
import Derived.Test.YthogmlblppcjoaaFmtSpec
namespace Go.Proofs.YthogmlblppcjoaaFmt
set_option linter.unusedSimpArgs false
set_option linter.unusedVariables false
open Go.RowKit

/-- The loop of On. -/
def OnInv (w wr : World) (k : Nat) (f : Nat → Bool) (v : Value) : Prop :=
  Kept [] w wr ∧ w.heap.size + 1 ≤ wr.heap.size ∧ wr.ownsRow (w.heap.size + 1) 3 1 v (onL k f).length (intsOf (onL k f))

set_option maxHeartbeats 1000000 in
theorem on_c (s : Value) (n : Nat) (f : Nat → Bool) (t : Bool) (w : World) (h : SpecSet w s n f t) (hn : n ≤ 20000) :
    Calls Tryf.prog 8 #[s] w fun e w' => ∃ v, e = .returned v ∧ w'.ownsRow (w.heap.size + 1) 3 1 v (onL n f).length (intsOf (onL n f)) ∧ Kept [] w w' := by
  obtain ⟨b, c, rfl, hr⟩ := h
  obtain ⟨i0, hi, hz0, hz1, hz2⟩ := info_parts Tryf.info3
  have hst : OnInv w ((w.alloc (.cells #[.slice (some ⟨b, 0, none⟩) n c, .bool t] 28)).alloc (.cells #[] 3)) 0 f (.slice (some ⟨w.heap.size + 1, 0, none⟩) 0 0) := by
    refine ⟨((Kept.refl _ _).alloc _).alloc _, by simp, ?_⟩
    have := World.ownsRow_made (w.alloc (.cells #[.slice (some ⟨b, 0, none⟩) n c, .bool t] 28)) (base := w.heap.size + 1) (e := 3) (size := 1) #[] 0 (by simp) (by unfold maxLen; omega) rfl
    simpa [onL, intsOf] using this
  have hle := hr.le
  go_enter Tryf.func8, Tryf.ntmps8
  go_wp2
  go_loopw [3, 10] (fun v i wr => ∃ k : Nat, k ≤ n ∧ i = .int .i64 k ∧ OnInv w wr k f v) (fun _ i _ => n - (intOf i).toNat)
  case atStart => exact ⟨0, Nat.zero_le _, rfl, hst⟩
  case round =>
    obtain ⟨k, hk, rfl, hinv⟩ := hrel
    have hown := hinv.2.2
    have hl := onL_le k f
    have hsz := hinv.2.1
    by_cases hlt : k < n
    · have hcx := (hr.kept hinv.1 (by simp)).cell k hlt
      cases hfk : f k with
      | true =>
        rw [hfk] at hcx
        go_wp2_with (at_builtin; refine wpList_append_own _ rfl _ _ 22 rfl (w.heap.size + 1) 3 i0 (.int .i64 0) 1 8 Tryf.underlying22 hi hz0 hz1 hz2 rfl (by decide) _ _ _ rfl (World.ownsRow.alloc hown _) ⟨wr.heap.size, 0, none⟩ 1 1 [.int .i64 k] rfl rfl ?c1 ?c2 ?c3 ?c4 ?c5 ?_)
        case c1 => exact cell_one_new _ _ _
        case c2 => intro u hu; simp at hu; subst hu; rfl
        case c3 => unfold maxLen; omega
        case c4 => omega
        case c5 => simp; omega
        intro v' w1 hown' hgrow _
        have R : OnInv w w1 (k + 1) f v' := by
          refine ⟨(hinv.1.alloc _).grown hgrow (fun j hj => by have := (hown.lt j hj).1; right; omega), by have := hgrow.size; simp at this; omega, ?_⟩
          rw [onL_yes hfk]
          have e : intsOf (onL k f ++ [k]) = intsOf (onL k f) ++ [.int .i64 k] := by simp [intsOf]
          rw [e, List.length_append]; exact hown'
        clear hown' hgrow hown hcx
        go_wp2
        go_roundw
        case rel => exact ⟨k + 1, by omega, by go_num, R⟩
        case measure => simp [intOf]; omega
      | false =>
        rw [hfk] at hcx
        have R : OnInv w wr (k + 1) f u3 := ⟨hinv.1, hinv.2.1, by rw [onL_no hfk]; exact hown⟩
        go_wp2
        go_roundw
        case rel => exact ⟨k + 1, by omega, by go_num, R⟩
        case measure => simp [intOf]; omega
    · have hkn : k = n := by omega
      subst hkn
      go_wp2
      go_ret
      exact ⟨_, rfl, hown, hinv.1⟩

end Go.Proofs.YthogmlblppcjoaaFmt

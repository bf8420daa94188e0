/-
  The contract of impl's ints, and of impl.AsSlice.
-/
import Derived.Test.YtafbdkcbgjpolaaDoorAsS
import Derived.Test.YtafbdkcbgjpolaaDoorRow
namespace Go.Proofs.YtafbdkcbgjpolaaDoor
set_option linter.unusedSimpArgs false
set_option linter.unusedVariables false
set_option maxRecDepth 100000
open Go.RowKit

theorem Tryd.infoV : (Tryd.prog.info? 48).map (fun i => (i.zero, i.size, i.bytes)) = some (some (.int .u64 0), 1, 8) := by kernel_rfl
def InInv (w wr : World) (k : Nat) (l : List Nat) (v : Value) : Prop :=
  Kept [] w wr ∧ w.heap.size ≤ wr.heap.size ∧ wr.ownsRow w.heap.size 3 1 v k (intsOf (l.take k))
set_option maxHeartbeats 1000000 in
theorem ints_c (gb room : Nat) (l : List Nat) (w : World) (h : VRow w gb l room) (hrb : room ≤ 1000000) (hl : ∀ x ∈ l, x < 9000) :
    Calls Tryd.prog 30 #[.slice (some ⟨gb, 0, none⟩) l.length room] w fun e w' => ∃ v, e = .returned v ∧ w'.ownsRow w.heap.size 3 1 v l.length (intsOf l) ∧ Kept [] w w' := by
  obtain ⟨i0, hi, hz0, hz1, hz2⟩ := info_parts Tryd.info3
  have hst : InInv w (w.alloc (.cells #[] 3)) 0 l (.slice (some ⟨w.heap.size, 0, none⟩) 0 0) := by
    refine ⟨(Kept.refl _ _).alloc _, by simp, ?_⟩
    have := World.ownsRow_made w (base := w.heap.size) (e := 3) (size := 1) #[] 0 (by simp) (by unfold maxLen; omega) rfl
    simpa [intsOf] using this
  have hle := h.le
  obtain ⟨N, hN⟩ : ∃ N, l.length = N := ⟨_, rfl⟩
  have HN := Lib.hid hN
  rw [hN] at hle ⊢
  go_enter Tryd.func30, Tryd.ntmps30
  go_wp2
  go_loopw [3, 9] (fun v i wr => ∃ k : Nat, k ≤ N ∧ i = .int .i64 k ∧ InInv w wr k l v) (fun _ i _ => N - (intOf i).toNat)
  case atStart => exact ⟨0, Nat.zero_le _, rfl, hst⟩
  case round =>
    obtain ⟨k, hk, rfl, hinv⟩ := hrel
    have hown := hinv.2.2
    have hsz := hinv.2.1
    by_cases hlt : k < N
    · have hcx := (h.kept hinv.1 (by simp)).cell k (by omega)
      have hx := hl (l.getD k 0) (by rw [getD_in _ _ _ (show k < l.length by omega)]; exact List.getElem_mem _)
      have ht : l.take (k + 1) = l.take k ++ [l.getD k 0] := by rw [getD_in _ _ _ (show k < l.length by omega), List.take_succ_eq_append_getElem (by omega)]
      generalize l.getD k 0 = x at *
      have hx1 : (x : Int) < 9223372036854775808 := by omega
      have hx0 : (0 : Int) ≤ (x : Int) := by omega
      have hlt' : (k : Int) < (N : Int) := by omega
      go_wp2_with (at_builtin; refine wpList_append_own _ rfl _ _ 22 rfl w.heap.size 3 i0 (.int .i64 0) 1 8 Tryd.underlying22 hi hz0 hz1 hz2 rfl (by decide) _ _ _ rfl (World.ownsRow.alloc hown _) ⟨wr.heap.size, 0, none⟩ 1 1 [.int .i64 x] rfl rfl ?c1 ?c2 ?c3 ?c4 ?c5 ?_)
      case c1 => exact cell_one_new _ _ _
      case c2 => intro u hu; simp at hu; subst hu; rfl
      case c3 => unfold maxLen; omega
      case c4 => omega
      case c5 => simp; omega
      intro v' w1 hown' hgrow _
      have R : InInv w w1 (k + 1) l v' := by
        refine ⟨(hinv.1.alloc _).grown hgrow (fun j hj => by have := (hown.lt j hj).1; right; omega), by have := hgrow.size; simp at this; omega, ?_⟩
        have e : intsOf (l.take (k + 1)) = intsOf (l.take k) ++ [.int .i64 x] := by rw [ht]; simp [intsOf]
        rw [e]; exact hown'
      clear hown' hgrow hown hcx
      go_wp2
      go_roundw
      case rel => exact ⟨k + 1, by omega, by go_num, R⟩
      case measure => simp [intOf]; omega
    · obtain rfl : k = N := by omega
      have R : wr.ownsRow w.heap.size 3 1 u3 k (intsOf l) := by
        have := hown
        rwa [List.take_of_length_le (by have := HN.out; omega)] at this
      have KR := hinv.1
      clear hown hinv
      go_wp2
      go_ret
      exact ⟨_, rfl, R, KR⟩

end Go.Proofs.YtafbdkcbgjpolaaDoor

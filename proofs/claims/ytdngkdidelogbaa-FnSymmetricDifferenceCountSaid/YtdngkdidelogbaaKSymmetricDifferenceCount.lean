/-
  The function that laws.FnSymmetricDifferenceCount hands to From.
-/
import Derived.Test.YtdngkdidelogbaaMemo
import Derived.Test.YtdngkdidelogbaaRow
namespace Go.Proofs.Ytdngkdidelogbaa
set_option linter.unusedSimpArgs false
set_option linter.unusedVariables false
open Go.RowKit

set_option maxHeartbeats 1000000 in
theorem fnSymmetricDifferenceCount_cl (X Y b1 n1 c1 b2 n2 c2 i : Nat) (f1 f2 : Nat → Bool) (w : World) (hX : w.heap[X]? = some (.cells #[.slice (some ⟨b1, 0, none⟩) n1 c1, .bool true] 28 (0, 0))) (hY : w.heap[Y]? = some (.cells #[.slice (some ⟨b2, 0, none⟩) n2 c2, .bool true] 28 (0, 0)))
    (h1 : SpecSet w (.agg #[.slice (some ⟨b1, 0, none⟩) n1 c1, .bool true]) n1 f1 true) (h2 : SpecSet w (.agg #[.slice (some ⟨b2, 0, none⟩) n2 c2, .bool true]) n2 f2 true) :
    Calls Try.prog 30 ((#[] : Array Value).push (.int .i64 i) ++ #[.pointer (some ⟨X, 0, none⟩), .pointer (some ⟨Y, 0, none⟩)]) w fun e w' => e = .returned (.bool ((decide (i < n1) && f1 i) ^^ (decide (i < n2) && f2 i))) ∧ Kept [] w w' := by
  have e1 : (decide (i < n1) && f1 i) = fAt n1 f1 (i : Int) := by simp [fAt]
  have e2 : (decide (i < n2) && f2 i) = fAt n2 f2 (i : Int) := by simp [fAt]
  rw [e1, e2]
  clear e1 e2
  obtain ⟨x0, x1, _, _, _, _⟩ := box2 hX (.bool true) (.bool true)
  obtain ⟨y0, y1, _, _, _, _⟩ := box2 hY (.bool true) (.bool true)
  obtain ⟨x, hx⟩ : ∃ x, fAt n1 f1 (i : Int) = x := ⟨_, rfl⟩
  obtain ⟨y, hy⟩ : ∃ y, fAt n2 f2 (i : Int) = y := ⟨_, rfl⟩
  rw [hx, hy]
  have HX := Lib.hid hx; have HY := Lib.hid hy; clear hx hy x0 x1 y0 y1
  have A0 : ∀ w', Kept [] w w' → w'.cell? ⟨X, 0, none⟩ = some (.slice (some ⟨b1, 0, none⟩) n1 c1) := fun w' k => (cell_of_heap (k.heap (by simp) hX)).trans rfl
  have A1 : ∀ w', Kept [] w w' → w'.cell? ⟨X, 1, none⟩ = some (.bool true) := fun w' k => (cell_of_heap (k.heap (by simp) hX)).trans rfl
  have B0 : ∀ w', Kept [] w w' → w'.cell? ⟨Y, 0, none⟩ = some (.slice (some ⟨b2, 0, none⟩) n2 c2) := fun w' k => (cell_of_heap (k.heap (by simp) hY)).trans rfl
  have B1 : ∀ w', Kept [] w w' → w'.cell? ⟨Y, 1, none⟩ = some (.bool true) := fun w' k => (cell_of_heap (k.heap (by simp) hY)).trans rfl
  go_enter Try.func30, Try.ntmps30
  go_wp2
  refine wp_region_held_drew (S := fun w' => Kept [] w w') (by kernel_rfl) (Kept.refl _ _).drew (fun hS => ?_)
  refine takeD 0 5 (v := ?_) rfl rfl (by kernel_rfl) (by kernel_rfl) (by kernel_rfl) (fun _ _ _ h => h) (Or.inl ⟨by kernel_rfl, ?_⟩) hS ?_
  rotate_left 1
  · (intro w' hw'; (try dsimp only at hw'); go_simp; try with_reducible rfl)
  simp only [List.setIfInBounds_toArray, List.set_cons_zero, List.set_cons_succ]
  refine takeD 1 6 (v := ?_) rfl rfl (by kernel_rfl) (by kernel_rfl) (by kernel_rfl) (fun _ _ _ h => h) (Or.inl ⟨by kernel_rfl, ?_⟩) hS ?_
  rotate_left 1
  · (intro w' hw'; (try dsimp only at hw'); go_simp; try with_reducible rfl)
  simp only [List.setIfInBounds_toArray, List.set_cons_zero, List.set_cons_succ]
  refine takeD 3 8 (v := ?_) rfl rfl (by kernel_rfl) (by kernel_rfl) (by kernel_rfl) (fun _ _ _ h => h) (Or.inl ⟨by kernel_rfl, ?_⟩) hS ?_
  rotate_left 1
  · (intro w' hw'; (try dsimp only at hw'); go_simp; try with_reducible rfl)
  simp only [List.setIfInBounds_toArray, List.set_cons_zero, List.set_cons_succ]
  refine takeD 4 9 (v := ?_) rfl rfl (by kernel_rfl) (by kernel_rfl) (by kernel_rfl) (fun _ _ _ h => h) (Or.inl ⟨by kernel_rfl, ?_⟩) hS ?_
  rotate_left 1
  · (intro w' hw'; (try dsimp only at hw'); go_simp; try with_reducible rfl)
  simp only [List.setIfInBounds_toArray, List.set_cons_zero, List.set_cons_succ]
  refine wpAnyH_ready (rs := [2]) (by kernel_rfl) (by simp) ?_
  refine AllReadyH.cons rfl (fun K hK => ?_) AllReadyH.nil
  go_simp
  refine (at_c _ n1 f1 true i _ (h1.kept hS)).mono ?_
  rintro e w1 ⟨rfl, k1⟩
  rw [HX.out]
  refine hK.out _ _ ?_ (fun hS1 => ?_)
  · exact hS.trans0 k1
  clear hK K
  (try simp only [Act.put, List.setIfInBounds_toArray, List.set_cons_zero, List.set_cons_succ])
  refine wpAnyH_ready (rs := [5]) (by kernel_rfl) (by simp) ?_
  refine AllReadyH.cons rfl (fun K hK => ?_) AllReadyH.nil
  go_simp
  refine (at_c _ n2 f2 true i _ (h2.kept hS1)).mono ?_
  rintro e w2 ⟨rfl, k2⟩
  rw [HY.out]
  refine hK.out _ _ ?_ (fun hS2 => ?_)
  · exact hS1.trans0 k2
  clear hK K
  (try simp only [Act.put, List.setIfInBounds_toArray, List.set_cons_zero, List.set_cons_succ])
  refine takeD 6 11 (v := ?_) rfl rfl (by kernel_rfl) (by kernel_rfl) (by kernel_rfl) (fun _ _ _ h => h) (Or.inl ⟨by kernel_rfl, ?_⟩) hS2 ?_
  rotate_left 1
  · (intro w' hw'; (try dsimp only at hw'); go_simp; try with_reducible rfl)
  simp only [List.setIfInBounds_toArray, List.set_cons_zero, List.set_cons_succ]
  refine takeD 7 4 (v := ?_) rfl rfl (by kernel_rfl) (by kernel_rfl) (by kernel_rfl) (fun _ _ _ h => h) (Or.inl ⟨by kernel_rfl, ?_⟩) hS2 ?_
  rotate_left 1
  · (intro w' hw'; (try dsimp only at hw'); go_simp; try with_reducible rfl)
  simp only [List.setIfInBounds_toArray, List.set_cons_zero, List.set_cons_succ]
  refine wpAnyH_done (by kernel_rfl) ?_ _
  go_wp2
  go_ret
  exact ⟨by cases x <;> cases y <;> rfl, hS2⟩


end Go.Proofs.Ytdngkdidelogbaa

/-
  The contract of Clone: a new set with the same bits; for at most 20000 bits.
-/
import Derived.Test.YtiaghdnhapiioaaNew
import Derived.Test.YtiaghdnhapiioaaCopyOp
namespace Go.Proofs.Ytiaghdnhapiioaa
set_option linter.unusedSimpArgs false
set_option linter.unusedVariables false
open Go.RowKit

theorem splice_all (k : Nat) (ds ws : List Nat) (hd : ds.length = k) (hw : ws.length = k) : splice ds 0 ws = ws := by
  unfold splice
  rw [List.drop_of_length_le (by omega)]
  simp

set_option maxHeartbeats 1000000 in
theorem clone_c (b g n : Nat) (f : Nat → Bool) (w : World) (h : BSet w b g n f) (hn : n ≤ 20000) :
    Calls Try.prog 68 #[.pointer (some ⟨b, 0, none⟩)] w fun e w' => ∃ b' g', e = .returned (.pointer (some ⟨b', 0, none⟩)) ∧ BSet w' b' g' n f ∧ w.heap.size ≤ b' ∧ w.heap.size ≤ g' ∧ Kept [] w w' := by
  obtain ⟨hne, cap, ws, hh, hr, hw⟩ := h
  have hm := hw.length
  have hc0 := hh.c0
  have hnil := fun (wx : World) (a : Addr) (n c : Nat) => Go.run_neq_slice_nil_any (P := Try.prog) wx 69 72 (some a) n c 0 0 Try.underlying69
  simp only [Option.isNone] at hnil
  have hglt := hr.lt
  have hblt := hh.lt
  go_enter Try.func68, Try.ntmps68
  go_wp2_with fail
  refine (new_c n _ hn).mono ?_
  rintro e w1 ⟨b', g', rfl, ⟨hne', cap', ws', hh', hr', hw'⟩, n1, n2, k1⟩
  have hh1 := hh.kept k1 (by simp)
  have hr1 := hr.kept k1 (by simp)
  have c1 := hh1.c1
  have c1' := hh'.c1
  have hm' := hw'.length
  have hsrc : ∀ j, j < ws.length → w1.cell? ⟨g, 0 + j, none⟩ = some (.int .u64 (ws.getD j 0 : Nat)) := fun j hj => by rw [Nat.zero_add]; exact hr1.cell j hj
  have HS := Lib.hid hsrc; clear hsrc
  have HW := Lib.hid hm; have HW' := Lib.hid hm'
  have hmm : ws'.length = ws.length := by omega
  clear hm hm'
  rw [hmm] at hh' c1'
  have HMM := Lib.hid hmm; clear hmm
  go_wp2_with fail
  refine wp_region_held_drew (S := fun w' => w'.cell? ⟨b', 1, none⟩ = some (.slice (some ⟨g', 0, none⟩) ws.length cap') ∧ w'.cell? ⟨b, 1, none⟩ = some (.slice (some ⟨g, 0, none⟩) ws.length cap)) (by kernel_rfl) ⟨c1', c1⟩ (fun hS => ?_)
  refine takeD 0 14 (v := ?_) rfl rfl (by kernel_rfl) (by kernel_rfl) (by kernel_rfl) (fun _ _ _ h => h) (Or.inl ⟨by kernel_rfl, ?_⟩) hS ?_
  rotate_left 1
  · (intro w' hw'; (try dsimp only at hw'); go_simp; try with_reducible rfl)
  simp only [List.setIfInBounds_toArray, List.set_cons_zero, List.set_cons_succ]
  refine takeD 1 15 (v := ?_) rfl rfl (by kernel_rfl) (by kernel_rfl) (by kernel_rfl) (fun _ _ _ h => h) (Or.inl ⟨by kernel_rfl, ?_⟩) hS ?_
  rotate_left 1
  · (intro w' hw'; (try dsimp only at hw'); go_simp; try with_reducible rfl)
  simp only [List.setIfInBounds_toArray, List.set_cons_zero, List.set_cons_succ]
  refine takeD 2 16 (v := ?_) rfl rfl (by kernel_rfl) (by kernel_rfl) (by kernel_rfl) (fun _ _ _ h => h) (Or.inl ⟨by kernel_rfl, ?_⟩) hS ?_
  rotate_left 1
  · (intro w' hw'; (try dsimp only at hw'); go_simp; try with_reducible rfl)
  simp only [List.setIfInBounds_toArray, List.set_cons_zero, List.set_cons_succ]
  refine takeD 3 17 (v := ?_) rfl rfl (by kernel_rfl) (by kernel_rfl) (by kernel_rfl) (fun _ _ _ h => h) (Or.inl ⟨by kernel_rfl, ?_⟩) hS ?_
  rotate_left 1
  · (intro w' hw'; (try dsimp only at hw'); go_simp; try with_reducible rfl)
  simp only [List.setIfInBounds_toArray, List.set_cons_zero, List.set_cons_succ]
  refine takeD 4 18 (v := ?_) rfl rfl (by kernel_rfl) (by kernel_rfl) (by kernel_rfl) (fun _ _ _ h => h) (Or.inl ⟨by kernel_rfl, ?_⟩) hS ?_
  rotate_left 1
  · (intro w' hw'; (try dsimp only at hw'); go_simp; try with_reducible rfl)
  simp only [List.setIfInBounds_toArray, List.set_cons_zero, List.set_cons_succ]
  refine takeD 5 19 (v := ?_) rfl rfl (by kernel_rfl) (by kernel_rfl) (by kernel_rfl) (fun _ _ _ h => h) (Or.inl ⟨by kernel_rfl, ?_⟩) hS ?_
  rotate_left 1
  · (intro w' hw'; (try dsimp only at hw'); go_simp; try with_reducible rfl)
  simp only [List.setIfInBounds_toArray, List.set_cons_zero, List.set_cons_succ]
  refine takeD 6 20 (v := ?_) rfl rfl (by kernel_rfl) (by kernel_rfl) (by kernel_rfl) (fun _ _ _ h => h) (Or.inl ⟨by kernel_rfl, ?_⟩) hS ?_
  rotate_left 1
  · (intro w' hw'; (try dsimp only at hw'); go_simp; try with_reducible rfl)
  simp only [List.setIfInBounds_toArray, List.set_cons_zero, List.set_cons_succ]
  refine takeD 7 21 (v := ?_) rfl rfl (by kernel_rfl) (by kernel_rfl) (by kernel_rfl) (fun _ _ _ h => h) (Or.inl ⟨by kernel_rfl, ?_⟩) hS ?_
  rotate_left 1
  · (intro w' hw'; (try dsimp only at hw'); go_simp; try with_reducible rfl)
  simp only [List.setIfInBounds_toArray, List.set_cons_zero, List.set_cons_succ]
  refine wpAnyH_ready (rs := [8]) (by kernel_rfl) (by simp) ?_
  refine AllReadyH.cons rfl (fun K hK => ?_) AllReadyH.nil
  refine wanted_plain rfl ?_
  refine oper_copyU (.tmp 17) (.tmp 21) 69 rfl Try.underlying69 Try.sizeU g' 0 ws.length cap' g 0 ws.length cap rfl rfl ws' cap' hr' ws (Nat.min_self _).symm HS.out (by rw [HMM.out]; omega) ?_
  intro w2 r2 k2 hsz
  have k2' : Kept [g'] w1 w2 := ((Kept.refl [g'] w1).drew).trans k2 (fun i hi => .inl hi)
  refine hK.out _ _ ?_ (fun hS2 => ?_)
  · exact ⟨k2'.cell (by simpa using hne') c1', k2'.cell (by simp; omega) c1⟩
  clear hK K
  (try simp only [Act.put, List.setIfInBounds_toArray, List.set_cons_zero, List.set_cons_succ])
  refine wpAnyH_done (by kernel_rfl) ?_ _
  rw [splice_all _ _ _ HMM.out rfl] at r2
  have hh2 := hh'.kept k2' (by simpa using hne')
  have kA := k1.trans k2' (fun i hi => by simp at hi; subst hi; right; exact n2)
  clear hnil
  go_wp2
  go_ret
  exact ⟨b', g', rfl, ⟨hne', cap', ws, hh2, r2, hw⟩, n1, n2, kA⟩

end Go.Proofs.Ytiaghdnhapiioaa

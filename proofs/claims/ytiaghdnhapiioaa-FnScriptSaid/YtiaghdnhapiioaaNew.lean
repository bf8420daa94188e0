/-
  The contract of New: a set of so many bits, none set; for at most 20000 bits.
-/
import Derived.Test.YtiaghdnhapiioaaOps
import Derived.Defers
import Derived.Recover
namespace Go.Proofs.Ytiaghdnhapiioaa
set_option linter.unusedSimpArgs false
set_option linter.unusedVariables false
open Go.RowKit

theorem WordsOk.allZ {n : Nat} (m : Nat) (hm : m = (n + 63) / 64) : WordsOk (List.replicate m 0) n (fun _ => false) := by
  have := WordsOk.zeros n
  rw [hm]
  exact this.congr fun j _ => by simp [memOf]

theorem newCatch_idle (p : Addr) (w : World) :
    CallsD Try.prog 73 #[.pointer (some p)] .returning w fun e u' w' => e = .returned (.tuple #[]) ∧ u' = .returning ∧ w' = w := by
  refine callsD_of_wpS Try.func73 rfl fun c₀ cs hu => ?_
  apply wpS_seq
  apply wpS_region
  simp [wpOpsS, go_sem, recoverD, hu, Try.ntmps73, Exit.thenS]
  apply wpS_seq
  apply wpS_region
  simp [wpOpsS, go_sem, recoverD, hu, Exit.thenS]
  refine wpS_cond (t := false) (by simp [Act.eval, Array.replicate]) ?_
  simp only [Bool.false_eq_true, if_false]
  refine wpS_of_wp (wp_skip ?_)
  cases c₀
  simp_all [bodyPostS, results, Try.results73]

set_option maxHeartbeats 1000000 in
theorem new_c (n : Nat) (w : World) (hn : n ≤ 20000) :
    Calls Try.prog 65 #[.int .u64 n] w fun e w' => ∃ b g, e = .returned (.pointer (some ⟨b, 0, none⟩)) ∧ BSet w' b g n (fun _ => false) ∧ w.heap.size ≤ b ∧ w.heap.size ≤ g ∧ Kept [] w w' := by
  have hmf : ∀ (fn : Fn) (first cap : Array Value) (w : World), (Instr.makeFunc fn first cap).run Try.prog w = .ok (.func fn first cap) w := fun _ _ _ _ => rfl
  obtain ⟨i0, hi0, hz0, hz1, hz2⟩ := info_parts Try.infoU
  obtain ⟨M, hM⟩ : ∃ M, (n + 63) / 64 = M := ⟨_, rfl⟩
  have HM : Hid (((n : Int) + 63) / 64 = (M : Int)) := by show _ = _; omega
  have hM1 : M ≤ 313 := by omega
  go_enter_defers Try.func65, Try.ntmps65
  go_wp2_with (first
    | (go_at_call 70; refine (wordsNeeded_c _ (by omega) (by omega) _).mono ?_; rintro e w' ⟨rfl, rfl⟩; rw [HM.out])
    | (refine wpList_mk rfl (.tmp 6) (.tmp 6) 69 72 rfl i0 (.int .u64 0) 8 Try.underlying69 hi0 hz0 hz1 hz2 rfl _ _ M M rfl rfl rfl rfl (Nat.le_refl _) (by omega) (by omega) ?_))
  have kW : Kept [] w (((w.alloc (.cells #[.pointer (some ⟨w.heap.size + 1 + 1, 0, none⟩)] 57)).alloc (.cells (zrow (.int .u64 0) M) 72)).alloc (.cells #[.int .u64 n, .slice (some ⟨w.heap.size + 1, 0, none⟩) M M] 71)) := (((Kept.refl _ _).alloc _).alloc _).alloc _
  have r1 := URow.new (w.alloc (.cells #[.pointer (some ⟨w.heap.size + 1 + 1, 0, none⟩)] 57)) M M (Nat.le_refl _)
  have e1 : (w.alloc (.cells #[.pointer (some ⟨w.heap.size + 1 + 1, 0, none⟩)] 57)).heap.size = w.heap.size + 1 := by simp
  rw [e1] at r1
  have r2 := r1.alloc (.cells #[.int .u64 n, .slice (some ⟨w.heap.size + 1, 0, none⟩) M M] 71)
  have g2 := heap_alloc_new ((w.alloc (.cells #[.pointer (some ⟨w.heap.size + 1 + 1, 0, none⟩)] 57)).alloc (.cells (zrow (.int .u64 0) M) 72)) (.cells #[.int .u64 n, .slice (some ⟨w.heap.size + 1, 0, none⟩) M M] 71)
  have e2 : ((w.alloc (.cells #[.pointer (some ⟨w.heap.size + 1 + 1, 0, none⟩)] 57)).alloc (.cells (zrow (.int .u64 0) M) 72)).heap.size = w.heap.size + 1 + 1 := by simp
  rw [e2] at g2
  have g0 := alloc_heap_old (alloc_heap_old (heap_alloc_new w (.cells #[.pointer (some ⟨w.heap.size + 1 + 1, 0, none⟩)] 57)) (.cells (zrow (.int .u64 0) M) 72)) (.cells #[.int .u64 n, .slice (some ⟨w.heap.size + 1, 0, none⟩) M M] 71)
  generalize (((w.alloc (.cells #[.pointer (some ⟨w.heap.size + 1 + 1, 0, none⟩)] 57)).alloc (.cells (zrow (.int .u64 0) M) 72)).alloc (.cells #[.int .u64 n, .slice (some ⟨w.heap.size + 1, 0, none⟩) M M] 71)) = W at *
  have c0 : W.cell? ⟨w.heap.size, 0, none⟩ = some (.pointer (some ⟨w.heap.size + 1 + 1, 0, none⟩)) := (cell_of_heap g0).trans rfl
  have hB : BSet W (w.heap.size + 1 + 1) (w.heap.size + 1) n (fun _ => false) := ⟨by omega, M, _, by rw [List.length_replicate]; exact g2, r2, WordsOk.allZ M hM.symm⟩
  clear r1 r2 g2 g0 e1 e2 hmf
  refine leaves_cons (f := 73) (args := #[.pointer (some ⟨w.heap.size, 0, none⟩)]) (by simp) (by simp [go_sem]) ?_
  refine (newCatch_idle ⟨w.heap.size, 0, none⟩ _).mono ?_
  rintro e u' w'' ⟨rfl, rfl, rfl⟩
  simp [Leaves, settle, results, Try.results65, go_sem, c0]
  exact ⟨_, hB, by omega, by omega, kW⟩

end Go.Proofs.Ytiaghdnhapiioaa

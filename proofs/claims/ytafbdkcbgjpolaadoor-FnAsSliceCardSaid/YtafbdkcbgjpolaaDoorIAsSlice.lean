/-
  impl.AsSlice.
-/
import Derived.Test.YtafbdkcbgjpolaaDoorInI2
namespace Go.Proofs.YtafbdkcbgjpolaaDoor
set_option linter.unusedSimpArgs false
set_option linter.unusedVariables false
set_option maxRecDepth 100000
open Go.RowKit

set_option maxHeartbeats 2000000 in
theorem implAsSlice_c (L room : Nat) (v : Value) (on : List Nat) (w : World) (hv : IntsAt w v on) (hL : L ≤ 9000) (hlen : on.length ≤ 1000000) (hon : ∀ x ∈ on, x < 9000) (hroom : (onL (lenOf L on) (memOf on)).length ≤ room) (hrb : room ≤ 1000000) (hT : TabW w) :
    Calls Tryd.prog 21 #[.agg #[.int .i64 L, v], .int .i64 room] w fun e w' => ∃ v', e = .returned v' ∧ IntsAt w' v' (onL (lenOf L on) (memOf on)) ∧ Kept [] w w' := by
  have k0 : Kept [] w (w.alloc (.cells #[.int .i64 L, v] 24)) := (Kept.refl _ _).alloc _
  have hln := lenOf_le L on 9000 hL hon
  have hp := hT.pos
  have hmk : ∀ w : World, (Instr.makeSlice 53 (.int .i64 0) (.int .i64 room)).run Tryd.prog w = .ok (.slice (some ⟨w.heap.size, 0, none⟩) 0 room) (w.alloc (.cells (zrow (.int .u64 0) room) 48)) := fun w => by
    obtain ⟨i0, hi, hz0, hz1, hz2⟩ := info_parts Tryd.infoV
    exact run_mk _ _ i0 _ 8 Tryd.underlying53 hi hz0 hz1 hz2 rfl _ _ 0 room rfl rfl (Nat.zero_le _) (by omega) (by omega) w
  have ONLT : ∀ x ∈ onL (lenOf L on) (memOf on), x < 9000 := fun x hx => by have := onL_lt _ _ x hx; omega
  have kB : Kept [] w ((w.alloc (.cells #[.int .i64 L, v] 24)).alloc (.cells (zrow (.int .u64 0) room) 48)).drew := (k0.alloc _).drew
  have hv0 : VRow ((w.alloc (.cells #[.int .i64 L, v] 24)).alloc (.cells (zrow (.int .u64 0) room) 48)).drew (w.heap.size + 1) [] room := by
    have := VRow.new (w.alloc (.cells #[.int .i64 L, v] 24)) 0 room (Nat.zero_le _)
    rw [show (w.alloc (.cells #[.int .i64 L, v] 24)).heap.size = w.heap.size + 1 by simp] at this
    exact this
  go_enter Tryd.func21, Tryd.ntmps21
  go_wp2_with fail
  go_region_with (first
    | (go_at_call 26; refine (build_c L v on _ (hv.kept ?_) ?_ ?_ hlen).mono ?_; (first | (with_reducible exact k0.drew) | (with_reducible exact kB)); (· omega); (· intro x hx; have := hon x hx; omega); rintro e w1 ⟨b, g, rfl, hb, n1, n2, k1⟩)
    | (go_at_call 32; with_reducible refine (asSlice_c b g _ w1.heap.size room _ (w1.alloc _) (hb.alloc _) ?_ (VRow.new w1 0 room (Nat.zero_le _)) ?_ ?_ ?_ hroom hrb ((hT.kept0 (k0.drew.trans0 k1)).kept0 ((Kept.refl _ _).alloc _))).mono ?_; (· omega); (· have := hb.lt; omega); (· have := hb.lt; omega); (· have := (k0.drew.trans0 k1).size; omega); rintro e w2 ⟨rfl, hrow, k2⟩; have KK : Kept [] w w2 := ((k0.drew.trans0 k1).alloc _).trans k2 (fun j hj => by have := (k0.drew.trans0 k1).size; simp at hj; right; omega))
    | (go_at_call 32; refine (asSlice_c b g _ _ room _ w1 hb ?_ (hv0.kept k1 (by simp)) ?_ ?_ ?_ hroom hrb (hT.kept0 (kB.trans0 k1))).mono ?_; (· omega); (· simp at n1; simp; omega); (· simp at n2; simp; omega); (· simp); rintro e w2 ⟨rfl, hrow, k2⟩; have KK : Kept [] w w2 := (kB.trans0 k1).trans k2 (fun j hj => by simp at hj; right; omega))
    | (go_at_call 30; refine (ints_c _ room _ _ hrow hrb ?_).mono ?_; (· intro x hx; have := ONLT x hx; omega); rintro e w3 ⟨v3, rfl, hown, k3⟩))
  all_goals
    go_wp2
    go_ret
    exact ⟨_, rfl, IntsAt.of_owns hown, KK.trans0 k3⟩

end Go.Proofs.YtafbdkcbgjpolaaDoor

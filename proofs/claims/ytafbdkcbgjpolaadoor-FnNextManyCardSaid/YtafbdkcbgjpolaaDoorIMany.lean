/-
  impl.NextSetMany.
-/
import Derived.Test.YtafbdkcbgjpolaaDoorInI2
import Derived.Test.YtafbdkcbgjpolaaDoorMany
namespace Go.Proofs.YtafbdkcbgjpolaaDoor
set_option linter.unusedSimpArgs false
set_option linter.unusedVariables false
set_option maxRecDepth 100000
open Go.RowKit

set_option maxHeartbeats 4000000 in
theorem implMany_c (L i room : Nat) (v : Value) (on : List Nat) (w : World) (hv : IntsAt w v on) (hL : L ≤ 9000) (hlen : on.length ≤ 1000000) (hon : ∀ x ∈ on, x < 9000) (hi : i ≤ 9000) (hr1 : 0 < room) (hrb : room ≤ 1000000) (hT : TabW w) (l : List Nat) (hl : (onL (lenOf L on) (fromF i (lenOf L on) (memOf on))).take room = l) :
    Calls Tryd.prog 19 #[.agg #[.int .i64 L, v], .int .i64 i, .int .i64 room] w fun e w' => ∃ v', e = .returned (.tuple #[.int .i64 (l.getD (l.length - 1) 0 : Nat), v']) ∧ IntsAt w' v' l ∧ Kept [] w w' := by
  have k0 : Kept [] w (w.alloc (.cells #[.int .i64 L, v] 24)) := (Kept.refl _ _).alloc _
  have hln := lenOf_le L on 9000 hL hon
  have hp := hT.pos
  have hmk : ∀ w : World, (Instr.makeSlice 53 (.int .i64 room) (.int .i64 room)).run Tryd.prog w = .ok (.slice (some ⟨w.heap.size, 0, none⟩) room room) (w.alloc (.cells (zrow (.int .u64 0) room) 48)) := fun w => by
    obtain ⟨i0, hi, hz0, hz1, hz2⟩ := info_parts Tryd.infoV
    exact run_mk _ _ i0 _ 8 Tryd.underlying53 hi hz0 hz1 hz2 rfl _ _ room room rfl rfl (Nat.le_refl _) (by omega) (by omega) w
  have kB : Kept [] w ((w.alloc (.cells #[.int .i64 L, v] 24)).alloc (.cells (zrow (.int .u64 0) room) 48)).drew := (k0.alloc _).drew
  have hv0 : VRow ((w.alloc (.cells #[.int .i64 L, v] 24)).alloc (.cells (zrow (.int .u64 0) room) 48)).drew (w.heap.size + 1) [] room := by
    have := VRow.new (w.alloc (.cells #[.int .i64 L, v] 24)) 0 room (Nat.zero_le _)
    rw [show (w.alloc (.cells #[.int .i64 L, v] 24)).heap.size = w.heap.size + 1 by simp] at this
    exact this
  have ONLT : ∀ x ∈ l, x < 9000 := fun x hx => by
    rw [← hl] at hx
    have := onL_lt _ _ x (List.mem_of_mem_take hx); omega
  obtain ⟨z, hz⟩ : ∃ z, l.getD (l.length - 1) 0 = z := ⟨_, rfl⟩
  have hz9 : z < 9000 := by
    rw [← hz]
    by_cases h0 : l.length = 0
    · rw [List.length_eq_zero_iff.1 h0]; decide
    · rw [getD_in _ _ _ (show l.length - 1 < l.length by omega)]; exact ONLT _ (List.getElem_mem _)
  rw [hz]
  have HZ := Lib.hid hz; clear hz
  have i0 : (0 : Int) ≤ (i : Int) := by omega
  have i1 : (i : Int) ≤ 9000 := by omega
  have hiw : IntKind.u64.wrap (i : Int) = (i : Int) := by rw [IntKind.wrap_u64]; omega
  have z1 : (z : Int) < 9000 := by omega
  have hzw : IntKind.i64.wrap (z : Int) = (z : Int) := by rw [IntKind.wrap_i64]; omega
  go_enter Tryd.func19, Tryd.ntmps19
  go_wp2_with fail
  go_region_with (first
    | (go_at_call 26; refine (build_c L v on _ (hv.kept ?_) ?_ ?_ hlen).mono ?_; (first | (with_reducible exact k0.drew) | (with_reducible exact kB)); (· omega); (· intro x hx; have := hon x hx; omega); rintro e w1 ⟨b, g, rfl, hb, n1, n2, k1⟩)
    | (go_at_call 29; with_reducible refine (nextMany_c b g _ i w1.heap.size room _ (w1.alloc _) (hb.alloc _) ?_ ?_ (VRow.new w1 0 room (Nat.zero_le _)) ?_ ?_ ?_ hr1 hrb ((hT.kept0 (k0.drew.trans0 k1)).kept0 ((Kept.refl _ _).alloc _)) l hl).mono ?_; (· omega); (· omega); (· have := hb.lt; omega); (· have := hb.lt; omega); (· have := (k0.drew.trans0 k1).size; omega); rintro e w2 ⟨rfl, hrow, k2⟩; rw [HZ.out]; have KK : Kept [] w w2 := ((k0.drew.trans0 k1).alloc _).trans k2 (fun j hj => by have := (k0.drew.trans0 k1).size; simp at hj; right; omega))
    | (go_at_call 29; refine (nextMany_c b g _ i _ room _ w1 hb ?_ ?_ (hv0.kept k1 (by simp)) ?_ ?_ ?_ hr1 hrb (hT.kept0 (kB.trans0 k1)) l hl).mono ?_; (· omega); (· omega); (· simp at n1; simp; omega); (· simp at n2; simp; omega); (· simp); rintro e w2 ⟨rfl, hrow, k2⟩; rw [HZ.out]; have KK : Kept [] w w2 := (kB.trans0 k1).trans k2 (fun j hj => by simp at hj; right; omega)))
  all_goals
    go_wp2_with fail
    refine (ints_c _ room _ _ hrow hrb ?_).mono ?_
    · intro x hx; exact ONLT x hx
    rintro e w3 ⟨v3, rfl, hown, k3⟩
    obtain ⟨ad3, ln3, cp3, rfl⟩ := slice_of_owns hown
    go_wp2_with fail
    refine bodyPost_ret (v := .tuple #[.int .i64 z, .slice ad3 ln3 cp3]) (by simp [results, Tryd.results19, go_sem]) rfl ⟨_, rfl, IntsAt.of_owns hown, KK.trans0 k3⟩

end Go.Proofs.YtafbdkcbgjpolaaDoor

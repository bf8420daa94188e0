/-
  impl.Any, impl.None and impl.All.
-/
import Derived.Test.YtdngkdidelogbaaAny
import Derived.Test.YtdngkdidelogbaaRow
namespace Go.Proofs.Ytdngkdidelogbaa
set_option linter.unusedSimpArgs false
set_option linter.unusedVariables false
open Go.RowKit

set_option maxHeartbeats 1000000 in
theorem implAny_c (L : Nat) (v : Value) (on : List Nat) (w : World) (hv : IntsAt w v on) (hL : L ≤ 9000) (hlen : on.length ≤ 1000000) (hon : ∀ x ∈ on, x < 9000) :
    Calls Try.prog 34 #[.agg #[.int .i64 L, v]] w fun e w' => e = .returned (.bool (!decide ((onL (lenOf L on) (memOf on)).length = 0))) ∧ Kept [] w w' := by
  have k0 : Kept [] w (w.alloc (.cells #[.int .i64 L, v] 24)) := (Kept.refl _ _).alloc _
  have hln := lenOf_le L on 9000 hL hon
  obtain ⟨C, hC⟩ : ∃ C, (onL (lenOf L on) (memOf on)).length = C := ⟨_, rfl⟩
  rw [hC]
  have HC := Lib.hid hC; clear hC
  go_enter Try.func34, Try.ntmps34
  go_wp2_with fail
  refine (build_c L v on _ (hv.kept k0) (by omega) (fun x hx => by have := hon x hx; omega) hlen).mono ?_
  rintro e w1 ⟨b, g, rfl, hb, n1, n2, k1⟩
  go_wp2_with fail
  refine (any_c b g _ _ w1 hb (by omega)).mono ?_
  rintro e w2 ⟨rfl, rfl⟩
  rw [HC.out]
  go_wp2_with fail
  go_ret
  exact ⟨rfl, k0.trans0 k1⟩

set_option maxHeartbeats 1000000 in
theorem implNone_c (L : Nat) (v : Value) (on : List Nat) (w : World) (hv : IntsAt w v on) (hL : L ≤ 9000) (hlen : on.length ≤ 1000000) (hon : ∀ x ∈ on, x < 9000) :
    Calls Try.prog 35 #[.agg #[.int .i64 L, v]] w fun e w' => e = .returned (.bool (decide ((onL (lenOf L on) (memOf on)).length = 0))) ∧ Kept [] w w' := by
  have k0 : Kept [] w (w.alloc (.cells #[.int .i64 L, v] 24)) := (Kept.refl _ _).alloc _
  have hln := lenOf_le L on 9000 hL hon
  obtain ⟨C, hC⟩ : ∃ C, (onL (lenOf L on) (memOf on)).length = C := ⟨_, rfl⟩
  rw [hC]
  have HC := Lib.hid hC; clear hC
  go_enter Try.func35, Try.ntmps35
  go_wp2_with fail
  refine (build_c L v on _ (hv.kept k0) (by omega) (fun x hx => by have := hon x hx; omega) hlen).mono ?_
  rintro e w1 ⟨b, g, rfl, hb, n1, n2, k1⟩
  go_wp2_with fail
  refine (none_c b g _ _ w1 hb (by omega)).mono ?_
  rintro e w2 ⟨rfl, rfl⟩
  rw [HC.out]
  go_wp2_with fail
  go_ret
  exact ⟨rfl, k0.trans0 k1⟩

set_option maxHeartbeats 1000000 in
theorem implAll_c (L : Nat) (v : Value) (on : List Nat) (w : World) (hv : IntsAt w v on) (hL : L ≤ 9000) (hlen : on.length ≤ 1000000) (hon : ∀ x ∈ on, x < 9000) :
    Calls Try.prog 36 #[.agg #[.int .i64 L, v]] w fun e w' => e = .returned (.bool (decide ((onL (lenOf L on) (memOf on)).length = lenOf L on))) ∧ Kept [] w w' := by
  have k0 : Kept [] w (w.alloc (.cells #[.int .i64 L, v] 24)) := (Kept.refl _ _).alloc _
  have hln := lenOf_le L on 9000 hL hon
  obtain ⟨C, hC⟩ : ∃ C, (onL (lenOf L on) (memOf on)).length = C := ⟨_, rfl⟩
  rw [hC]
  have HC := Lib.hid hC; clear hC
  go_enter Try.func36, Try.ntmps36
  go_wp2_with fail
  refine (build_c L v on _ (hv.kept k0) (by omega) (fun x hx => by have := hon x hx; omega) hlen).mono ?_
  rintro e w1 ⟨b, g, rfl, hb, n1, n2, k1⟩
  go_wp2_with fail
  refine (all_c b g _ _ w1 hb (by omega)).mono ?_
  rintro e w2 ⟨rfl, k2⟩
  rw [HC.out]
  go_wp2_with fail
  go_ret
  exact ⟨rfl, (k0.trans0 k1).trans0 k2⟩


end Go.Proofs.Ytdngkdidelogbaa

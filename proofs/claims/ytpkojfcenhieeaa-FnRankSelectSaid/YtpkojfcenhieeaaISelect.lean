/-
  impl.Select.
-/
import Derived.Test.YtpkojfcenhieeaaSelect
import Derived.Test.YtpkojfcenhieeaaRow
namespace Go.Proofs.Ytpkojfcenhieeaa
set_option linter.unusedSimpArgs false
set_option linter.unusedVariables false
open Go.RowKit

set_option maxHeartbeats 1000000 in
theorem implSelect_c (L i : Nat) (v : Value) (on : List Nat) (w : World) (hv : IntsAt w v on) (hL : L ≤ 9000) (hlen : on.length ≤ 1000000) (hon : ∀ x ∈ on, x < 9000) (hi9 : i ≤ 9000) :
    Calls Try.prog 16 #[.agg #[.int .i64 L, v], .int .i64 i] w fun e w' => e = .returned (.int .i64 (selV (lenOf L on) (memOf on) i : Nat)) ∧ Kept [] w w' := by
  have k0 : Kept [] w (w.alloc (.cells #[.int .i64 L, v] 24)) := (Kept.refl _ _).alloc _
  have hln := lenOf_le L on 9000 hL hon
  have hB : selV (lenOf L on) (memOf on) i ≤ 20000 := Nat.le_trans (selV_le _ _ _) (by omega)
  obtain ⟨C, hC⟩ : ∃ C, selV (lenOf L on) (memOf on) i = C := ⟨_, rfl⟩
  have hCb : C ≤ 20000 := by rw [← hC]; exact hB
  rw [hC]
  have HC := Lib.hid hC; clear hC hB
  go_enter Try.func16, Try.ntmps16
  go_wp2_with fail
  refine (build_c L v on _ (hv.kept k0) (by omega) (fun x hx => by have := hon x hx; omega) hlen).mono ?_
  rintro e w1 ⟨b, g, rfl, hb, n1, n2, k1⟩
  go_wp2_with fail
  refine (select_c b g _ i _ w1 hb (by omega) hi9).mono ?_
  rintro e w2 ⟨rfl, rfl⟩
  rw [HC.out]
  go_wp2_with fail
  go_ret
  exact ⟨rfl, k0.trans0 k1⟩

end Go.Proofs.Ytpkojfcenhieeaa

/-
  impl.Count and impl.Len.
-/
import Derived.Test.YtpkojfcenhieeaaCntB
import Derived.Test.YtpkojfcenhieeaaRow
namespace Go.Proofs.Ytpkojfcenhieeaa
set_option linter.unusedSimpArgs false
set_option linter.unusedVariables false
open Go.RowKit

set_option maxHeartbeats 1000000 in
theorem implCount_c (L : Nat) (v : Value) (on : List Nat) (w : World) (hv : IntsAt w v on) (hL : L ≤ 9000) (hlen : on.length ≤ 1000000) (hon : ∀ x ∈ on, x < 9000) :
    Calls Try.prog 17 #[.agg #[.int .i64 L, v]] w fun e w' => e = .returned (.int .i64 ((onL (lenOf L on) (memOf on)).length : Nat)) ∧ Kept [] w w' := by
  have k0 : Kept [] w (w.alloc (.cells #[.int .i64 L, v] 24)) := (Kept.refl _ _).alloc _
  have hln := lenOf_le L on 9000 hL hon
  obtain ⟨C, hC⟩ : ∃ C, (onL (lenOf L on) (memOf on)).length = C := ⟨_, rfl⟩
  have hCb : C ≤ 9000 := by have := onL_le (lenOf L on) (memOf on); omega
  rw [hC]
  have HC := Lib.hid hC; clear hC
  go_enter Try.func17, Try.ntmps17
  go_wp2_with fail
  refine (build_c L v on _ (hv.kept k0) (by omega) (fun x hx => by have := hon x hx; omega) hlen).mono ?_
  rintro e w1 ⟨b, g, rfl, hb, n1, n2, k1⟩
  go_wp2_with fail
  refine (count_c b g _ _ w1 hb (by omega)).mono ?_
  rintro e w2 ⟨rfl, rfl⟩
  rw [HC.out]
  go_wp2_with fail
  go_ret
  exact ⟨rfl, k0.trans0 k1⟩


end Go.Proofs.Ytpkojfcenhieeaa

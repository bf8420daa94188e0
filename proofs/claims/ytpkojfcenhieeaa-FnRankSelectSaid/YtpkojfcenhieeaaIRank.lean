/-
  impl.Rank.
-/
import Derived.Test.YtpkojfcenhieeaaRank
import Derived.Test.YtpkojfcenhieeaaRow
namespace Go.Proofs.Ytpkojfcenhieeaa
set_option linter.unusedSimpArgs false
set_option linter.unusedVariables false
open Go.RowKit

set_option maxHeartbeats 1000000 in
theorem implRank_c (L i : Nat) (v : Value) (on : List Nat) (w : World) (hv : IntsAt w v on) (hL : L ≤ 9000) (hlen : on.length ≤ 1000000) (hon : ∀ x ∈ on, x < 9000) (hi9 : i ≤ 9000) (hin : i < lenOf L on) :
    Calls Try.prog 15 #[.agg #[.int .i64 L, v], .int .i64 i] w fun e w' => e = .returned (.int .i64 ((onL (i + 1) (memOf on)).length : Nat)) ∧ Kept [] w w' := by
  have k0 : Kept [] w (w.alloc (.cells #[.int .i64 L, v] 24)) := (Kept.refl _ _).alloc _
  have hln := lenOf_le L on 9000 hL hon
  have hB : (onL (i + 1) (memOf on)).length ≤ 20000 := Nat.le_trans (onL_le _ _) (by omega)
  obtain ⟨C, hC⟩ : ∃ C, (onL (i + 1) (memOf on)).length = C := ⟨_, rfl⟩
  have hCb : C ≤ 20000 := by rw [← hC]; exact hB
  rw [hC]
  have HC := Lib.hid hC; clear hC hB
  go_enter Try.func15, Try.ntmps15
  go_wp2_with fail
  refine (build_c L v on _ (hv.kept k0) (by omega) (fun x hx => by have := hon x hx; omega) hlen).mono ?_
  rintro e w1 ⟨b, g, rfl, hb, n1, n2, k1⟩
  go_wp2_with fail
  refine (rank_c b g _ i _ w1 hb (by omega) hin).mono ?_
  rintro e w2 ⟨rfl, rfl⟩
  rw [HC.out]
  go_wp2_with fail
  go_ret
  exact ⟨rfl, k0.trans0 k1⟩

end Go.Proofs.Ytpkojfcenhieeaa

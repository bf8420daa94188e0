/-
  impl.OnesBetween.
-/
import Derived.Test.YtdngkdidelogbaaOnes
import Derived.Test.YtdngkdidelogbaaRow
namespace Go.Proofs.Ytdngkdidelogbaa
set_option linter.unusedSimpArgs false
set_option linter.unusedVariables false
open Go.RowKit

set_option maxHeartbeats 1000000 in
theorem implOnesBetween_c (L i k : Nat) (v : Value) (on : List Nat) (w : World) (hv : IntsAt w v on) (hL : L ≤ 9000) (hlen : on.length ≤ 1000000) (hon : ∀ x ∈ on, x < 9000) (hin : i ≤ lenOf L on) (hkn : k ≤ lenOf L on) :
    Calls Try.prog 38 #[.agg #[.int .i64 L, v], .int .i64 i, .int .i64 k] w fun e w' => e = .returned (.int .i64 ((onL k (fun j => decide (i ≤ j) && memOf on j)).length : Nat)) ∧ Kept [] w w' := by
  have k0 : Kept [] w (w.alloc (.cells #[.int .i64 L, v] 24)) := (Kept.refl _ _).alloc _
  have hln := lenOf_le L on 9000 hL hon
  obtain ⟨C, hC⟩ : ∃ C, (onL k (fun j => decide (i ≤ j) && memOf on j)).length = C := ⟨_, rfl⟩
  have hCb : C ≤ 9000 := by have := onL_le k (fun j => decide (i ≤ j) && memOf on j); omega
  rw [hC]
  have HC := Lib.hid hC; clear hC
  go_enter Try.func38, Try.ntmps38
  go_wp2_with fail
  refine (build_c L v on _ (hv.kept k0) (by omega) (fun x hx => by have := hon x hx; omega) hlen).mono ?_
  rintro e w1 ⟨b, g, rfl, hb, n1, n2, k1⟩
  go_wp2_with fail
  refine (onesBetween_c b g _ i k _ w1 hb (by omega) hin hkn).mono ?_
  rintro e w2 ⟨rfl, rfl⟩
  rw [HC.out]
  go_wp2_with fail
  go_ret
  exact ⟨rfl, k0.trans0 k1⟩


end Go.Proofs.Ytdngkdidelogbaa

/-
  impl.PreviousClear.
-/
import Derived.Test.YtpkojfcenhieeaaPrev
import Derived.Test.YtpkojfcenhieeaaRow
namespace Go.Proofs.Ytpkojfcenhieeaa
set_option linter.unusedSimpArgs false
set_option linter.unusedVariables false
open Go.RowKit

set_option maxHeartbeats 1000000 in
theorem implPreviousClear_c (L i : Nat) (v : Value) (on : List Nat) (w : World) (hv : IntsAt w v on) (hL : L ≤ 9000) (hlen : on.length ≤ 1000000) (hon : ∀ x ∈ on, x < 9000) (hin : i < lenOf L on) :
    Calls Try.prog 13 #[.agg #[.int .i64 L, v], .int .i64 i] w fun e w' => e = .returned (.tuple (topI (lst (fun j => !memOf on j) (i + 1)))) ∧ Kept [] w w' := by
  have k0 : Kept [] w (w.alloc (.cells #[.int .i64 L, v] 24)) := (Kept.refl _ _).alloc _
  have hln := lenOf_le L on 9000 hL hon
  have hi9 : i ≤ 9000 := by omega
  have hkl := lst_le (fun j => !memOf on j) (i + 1)
  obtain ⟨k, hk⟩ : ∃ k, lst (fun j => !memOf on j) (i + 1) = k := ⟨_, rfl⟩
  rw [hk] at hkl
  have HK := Lib.hid hk; clear hk
  rcases k with _ | q
  · go_enter Try.func13, Try.ntmps13
    go_wp2_with fail
    refine (build_c L v on _ (hv.kept k0) (by omega) (fun x hx => by have := hon x hx; omega) hlen).mono ?_
    rintro e w1 ⟨b, g, rfl, hb, n1, n2, k1⟩
    go_wp2_with fail
    refine (previousClear_c b g _ i _ w1 hb (by omega) hin).mono ?_
    rintro e w2 ⟨rfl, rfl⟩
    rw [HK.out, topV_zero]
    go_wp2_with fail
    refine bodyPost_ret (v := .tuple #[.int .i64 0, .bool false]) (by simp [results, Try.results13, go_sem] <;> omega) rfl ⟨by rw [HK.out]; rfl, k0.trans0 k1⟩
  · go_enter Try.func13, Try.ntmps13
    go_wp2_with fail
    refine (build_c L v on _ (hv.kept k0) (by omega) (fun x hx => by have := hon x hx; omega) hlen).mono ?_
    rintro e w1 ⟨b, g, rfl, hb, n1, n2, k1⟩
    go_wp2_with fail
    refine (previousClear_c b g _ i _ w1 hb (by omega) hin).mono ?_
    rintro e w2 ⟨rfl, rfl⟩
    rw [HK.out, topV_pos (Nat.succ_ne_zero q)]
    go_wp2_with fail
    refine bodyPost_ret (v := .tuple #[.int .i64 (q : Nat), .bool true]) (by simp [results, Try.results13, go_sem] <;> omega) rfl ⟨by rw [HK.out]; rfl, k0.trans0 k1⟩

end Go.Proofs.Ytpkojfcenhieeaa

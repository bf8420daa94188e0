/-
  impl.NextSet.
-/
import Derived.Test.YtafbdkcbgjpolaaDoorNext
import Derived.Test.YtafbdkcbgjpolaaDoorRow
namespace Go.Proofs.YtafbdkcbgjpolaaDoor
set_option linter.unusedSimpArgs false
set_option linter.unusedVariables false
set_option maxRecDepth 100000
open Go.RowKit

set_option maxHeartbeats 1000000 in
theorem implNextSet_c (L i : Nat) (v : Value) (on : List Nat) (w : World) (hv : IntsAt w v on) (hL : L ≤ 9000) (hlen : on.length ≤ 1000000) (hon : ∀ x ∈ on, x < 9000) (hi : i ≤ 9000) (hT : TabW w) :
    Calls Tryd.prog 15 #[.agg #[.int .i64 L, v], .int .i64 i] w fun e w' => ∃ q, i ≤ q ∧ NoneIn (lenOf L on) (memOf on) i q ∧ ((q < lenOf L on ∧ memOf on q = true ∧ e = .returned (.tuple #[.int .i64 q, .bool true])) ∨ (lenOf L on ≤ q ∧ e = .returned (.tuple #[.int .i64 0, .bool false]))) ∧ Kept [] w w' := by
  have k0 : Kept [] w (w.alloc (.cells #[.int .i64 L, v] 24)) := (Kept.refl _ _).alloc _
  have hln := lenOf_le L on 9000 hL hon
  go_enter Tryd.func15, Tryd.ntmps15
  go_wp2_with fail
  refine (build_c L v on _ (hv.kept k0) (by omega) (fun x hx => by have := hon x hx; omega) hlen).mono ?_
  rintro e w1 ⟨b, g, rfl, hb, n1, n2, k1⟩
  go_wp2_with fail
  refine (nextSet_c b g _ i _ w1 hb (by omega) (by omega) (hT.kept0 (k0.trans0 k1))).mono ?_
  rintro e w2 ⟨q, hq1, hq2, hq3, k2⟩
  rcases hq3 with ⟨h1, h2, rfl⟩ | ⟨h1, rfl⟩
  · go_wp2_with fail
    refine bodyPost_ret (v := .tuple #[.int .i64 (q : Nat), .bool true]) (by simp [results, Tryd.results15, go_sem] <;> omega) rfl ⟨q, hq1, hq2, .inl ⟨h1, h2, rfl⟩, (k0.trans0 k1).trans0 k2⟩
  · go_wp2_with fail
    refine bodyPost_ret (v := .tuple #[.int .i64 0, .bool false]) (by simp [results, Tryd.results15, go_sem] <;> omega) rfl ⟨q, hq1, hq2, .inr ⟨h1, rfl⟩, (k0.trans0 k1).trans0 k2⟩

end Go.Proofs.YtafbdkcbgjpolaaDoor

/-
  impl.String.
-/
import Derived.Test.YtafbdkcbgjpolaaDoorStr
namespace Go.Proofs.YtafbdkcbgjpolaaDoor
set_option linter.unusedSimpArgs false
set_option linter.unusedVariables false
set_option maxRecDepth 100000
open Go.RowKit

set_option maxHeartbeats 1000000 in
theorem implString_c (L : Nat) (v : Value) (on : List Nat) (w : World) (hv : IntsAt w v on) (hL : L ≤ 9000) (hlen : on.length ≤ 1000000) (hon : ∀ x ∈ on, x < 9000) (hT : TabW w) (hP : Lib.TabIs Tryd.prog w "internal/strconv.uint64pow10" .u64 Lib.pow10Tab) (l : List Nat) (hl : onL (lenOf L on) (memOf on) = l) :
    Calls Tryd.prog 24 #[.agg #[.int .i64 L, v]] w fun e w' => e = .returned (.string ⟨(tx l l.length ++ [125]).toArray⟩) ∧ Kept [] w w' := by
  have k0 : Kept [] w (w.alloc (.cells #[.int .i64 L, v] 24)) := (Kept.refl _ _).alloc _
  have hln := lenOf_le L on 9000 hL hon
  have HL := Lib.hid hl; clear hl
  go_enter Tryd.func24, Tryd.ntmps24
  go_wp2_with fail
  refine (build_c L v on _ (hv.kept k0) (by omega) (fun x hx => by have := hon x hx; omega) hlen).mono ?_
  rintro e w1 ⟨b, g, rfl, hb, n1, n2, k1⟩
  go_wp2_with fail
  refine (string_c b g _ _ w1 hb (by omega) ((hT.kept0 k0).kept0 k1) (tabIs_kept (tabIs_kept hP k0) k1) l HL.out).mono ?_
  rintro e w2 ⟨rfl, k2⟩
  go_wp2_with fail
  go_ret
  exact ⟨rfl, (k0.trans0 k1).trans0 k2⟩

end Go.Proofs.YtafbdkcbgjpolaaDoor

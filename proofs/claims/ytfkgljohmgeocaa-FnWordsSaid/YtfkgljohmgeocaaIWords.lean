/-
  impl.Words.
-/
import Derived.Test.YtfkgljohmgeocaaFrom
namespace Go.Proofs.Ytfkgljohmgeocaa
set_option linter.unusedSimpArgs false
set_option linter.unusedVariables false
open Go.RowKit

set_option maxHeartbeats 1000000 in
theorem words_c (b g n m cap : Nat) (w : World) (h : Hdr w b n g m cap) :
    Calls Try.prog 44 #[.pointer (some ⟨b, 0, none⟩)] w fun e w' => e = .returned (.slice (some ⟨g, 0, none⟩) m cap) ∧ w = w' := by
  have hc1 := h.c1
  clear h
  go_enter Try.func44, Try.ntmps44
  go_wp2_with fail
  go_ret
  exact ⟨rfl, rfl⟩
set_option maxHeartbeats 1000000 in
theorem implWords_c (L : Nat) (v : Value) (on : List Nat) (w : World) (hv : IntsAt w v on) (hL : L ≤ 9000) (hlen : on.length ≤ 1000000) (hon : ∀ x ∈ on, x < 9000) :
    Calls Try.prog 23 #[.agg #[.int .i64 L, v]] w fun e w' => ∃ (v' : Value) (ws : List Nat), e = .returned v' ∧ U64At w' v' ws ∧ WordsOk ws (lenOf L on) (memOf on) ∧ Kept [] w w' := by
  have k0 : Kept [] w ((w.alloc (.cells #[.int .i64 L, v] 27)).alloc (.cells #[] 23)) := ((Kept.refl _ _).alloc _).alloc _
  have g0 : ((w.alloc (.cells #[.int .i64 L, v] 27)).alloc (.cells #[] 23)).heap[w.heap.size + 1]? = some (.cells #[] 23 (0, 0)) := by
    have := heap_alloc_new (w.alloc (.cells #[.int .i64 L, v] 27)) (.cells #[] 23)
    simpa using this
  have hln := lenOf_le L on 9000 hL hon
  go_enter Try.func23, Try.ntmps23
  go_wp2_with fail
  refine (build_c L v on _ (hv.kept k0) (by omega) (fun x hx => by have := hon x hx; omega) hlen).mono ?_
  rintro e w1 ⟨b, g, rfl, ⟨hne, cap, ws, hh, hr, hw⟩, n1, n2, k1⟩
  have hm := hw.length
  have gb := k1.heap (by simp) g0
  have hu : U64At w1 (.slice (some ⟨g, 0, none⟩) ws.length cap) ws := .inr ⟨g, 0, cap, rfl, fun j hj => by rw [Nat.zero_add]; exact hr.cell j hj⟩
  have hm4 : ws.length ≤ 1000 := by omega
  have HM := Lib.hid hm; clear hm
  go_wp2_with fail
  refine (words_c b g _ _ _ w1 hh).mono ?_
  rintro e wt ⟨rfl, rfl⟩
  go_wp2_with (at_builtin; refine wpList_appendU rfl (.tmp 3) (.tmp 6) rfl (w.heap.size + 1) gb rfl _ ws rfl hu hm4 ?_)
  intro g2 cap2 w2 hr2 hg2 hgr
  have kA : Kept [] w w2 := (k0.trans0 k1).grown hgr (fun q hq => by cases hq; right; omega)
  go_wp2_with fail
  go_ret
  exact ⟨_, ws, rfl, .inr ⟨g2, 0, cap2, rfl, fun j hj => by rw [Nat.zero_add]; exact hr2.cell j hj⟩, hw, kA⟩

end Go.Proofs.Ytfkgljohmgeocaa

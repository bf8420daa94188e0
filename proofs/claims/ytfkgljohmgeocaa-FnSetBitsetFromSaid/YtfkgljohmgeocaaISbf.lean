/-
  impl.SetBitsetFrom.
-/
import Derived.Test.YtfkgljohmgeocaaIFrom
namespace Go.Proofs.Ytfkgljohmgeocaa
set_option linter.unusedSimpArgs false
set_option linter.unusedVariables false
open Go.RowKit

set_option maxHeartbeats 1000000 in
theorem sbf_c (b n g m0 cap0 g' m cap' N : Nat) (w : World) (hh : Hdr w b n g m0 cap0) (hN : 64 * m = N) (hm : m ≤ 300) :
    Calls Try.prog 57 #[.pointer (some ⟨b, 0, none⟩), .slice (some ⟨g', 0, none⟩) m cap'] w fun e w' => e = .returned (.tuple #[]) ∧ w' = (w.setCell ⟨b, 0, none⟩ (.int .u64 (N : Int))).setCell ⟨b, 1, none⟩ (.slice (some ⟨g', 0, none⟩) m cap') := by
  have e1 : (m : Int) * 64 = (N : Int) := by omega
  have c0 := hh.c0
  have c1 := hh.c1
  have z0 := hh.free 0
  have z1 := hh.free 1
  have hN2 : N ≤ 20000 := by omega
  clear hh hN
  go_enter Try.func57, Try.ntmps57
  go_wp2_with fail
  go_end0
  exact ⟨rfl, rfl⟩
set_option maxHeartbeats 1000000 in
theorem implSetBitsetFrom_c (L : Nat) (v : Value) (on : List Nat) (u : Value) (l : List Nat) (N : Nat) (w : World) (hv : IntsAt w v on) (hL : L ≤ 9000) (hlen : on.length ≤ 1000000) (hon : ∀ x ∈ on, x < 9000) (hu : U64At w u l) (hl : l.length ≤ 30) (hlt : ∀ x ∈ l, x < 2 ^ 64) (hN : 64 * l.length = N) :
    Calls Try.prog 31 #[.agg #[.int .i64 L, v], u] w fun e w' => ∃ v', e = .returned (.agg #[.int .i64 N, v']) ∧ IntsAt w' v' (onL N (wbit l)) ∧ Kept [] w w' := by
  have k0 : Kept [] w ((w.alloc (.cells #[.int .i64 L, v] 27)).alloc (.cells #[.int .i64 0, .slice none 0 0] 27)) := ((Kept.refl _ _).alloc _).alloc _
  have g0 : ((w.alloc (.cells #[.int .i64 L, v] 27)).alloc (.cells #[.int .i64 0, .slice none 0 0] 27)).heap[w.heap.size + 1]? = some (.cells #[.int .i64 0, .slice none 0 0] 27 (0, 0)) := by
    have := heap_alloc_new (w.alloc (.cells #[.int .i64 L, v] 27)) (.cells #[.int .i64 0, .slice none 0 0] 27)
    simpa using this
  have hln := lenOf_le L on 9000 hL hon
  have hN2 : N ≤ 20000 := by omega
  have hok : WordsOk l N (wbit l) := words_self l hlt N (by omega) (fun j hj => wbit_past l j (by omega))
  have HOK := Lib.hid hok; have HN := Lib.hid hN; clear hok hN
  go_enter Try.func31, Try.ntmps31
  go_wp2_with fail
  refine (build_c L v on _ (hv.kept k0) (by omega) (fun x hx => by have := hon x hx; omega) hlen).mono ?_
  rintro e w1 ⟨b, g, rfl, ⟨hne, cap0, ws, hh, hr, hw⟩, n1, n2, k1⟩
  have s0 : w.heap.size + 2 ≤ b ∧ w.heap.size + 2 ≤ g := by simp at n1 n2; omega
  have hblt := hh.lt
  have k2 : Kept [] w1 (w1.alloc (.cells #[] 23)) := (Kept.refl _ _).alloc _
  have gb := heap_alloc_new w1 (.cells #[] 23)
  have hu2 := ((hu.kept k0).kept k1).kept k2
  have hsz2 : (w1.alloc (.cells #[] 23)).heap.size = w1.heap.size + 1 := by simp
  have gR1 := k2.heap (by simp) (k1.heap (by simp) g0)
  have hh2 := hh.kept k2 (by simp)
  have kA2 := (k0.trans0 k1).trans0 k2
  have hs1 := k1.size
  simp at hs1
  clear hw hr
  go_wp2_with (at_builtin; refine wpList_appendU rfl (.tmp 9) (.tmp 10) rfl w1.heap.size gb rfl u l rfl hu2 (by omega) ?_)
  intro g3 cap3 w3 hr3 hg3 hgr
  have k3 : Kept [] w w3 := kA2.grown hgr (fun q hq => by cases hq; right; omega)
  have gR3 : w3.heap[w.heap.size + 1]? = some (.cells #[.int .i64 0, .slice none 0 0] 27 (0, 0)) := by
    rw [hgr.block _ (by rw [hsz2]; omega) (by simp; omega)]; exact gR1
  have hh3 : Hdr w3 b (lenOf L on) g ws.length cap0 := by
    unfold Hdr; rw [hgr.block _ (by rw [hsz2]; omega) (by simp; omega)]; exact hh2
  have hsz3 : w1.heap.size + 1 ≤ w3.heap.size := by have := hgr.size; rw [hsz2] at this; exact this
  have hg3lt := hr3.lt
  have hne3 : g3 ≠ b := by omega
  go_wp2_with fail
  refine (sbf_c b _ g _ _ g3 l.length cap3 N w3 hh3 HN.out (by omega)).mono ?_
  rintro e w4 ⟨rfl, rfl⟩
  have hb : BSet ((w3.setCell ⟨b, 0, none⟩ (.int .u64 (N : Int))).setCell ⟨b, 1, none⟩ (.slice (some ⟨g3, 0, none⟩) l.length cap3)) b g3 N (wbit l) :=
    ⟨Ne.symm hne3, cap3, l, (hh3.setLen N).setRow g3 l.length cap3, (hr3.other hne3 _).other hne3 _, HOK.out⟩
  have kA : Kept [] w ((w3.setCell ⟨b, 0, none⟩ (.int .u64 (N : Int))).setCell ⟨b, 1, none⟩ (.slice (some ⟨g3, 0, none⟩) l.length cap3)) := (k3.setCell (by right; simp; omega) _).setCell (by right; simp; omega) _
  have gR0 := setCell_heap_other (o := 1) (setCell_heap_other (o := 0) gR3 (show w.heap.size + 1 ≠ b by omega) (.int .u64 (N : Int))) (show w.heap.size + 1 ≠ b by omega) (.slice (some ⟨g3, 0, none⟩) l.length cap3)
  have hszW : ((w3.setCell ⟨b, 0, none⟩ (.int .u64 (N : Int))).setCell ⟨b, 1, none⟩ (.slice (some ⟨g3, 0, none⟩) l.length cap3)).heap.size = w3.heap.size := by simp [World.setCell]
  clear hh3 hr3 hh2 hh gR3 gb
  generalize ((w3.setCell ⟨b, 0, none⟩ (.int .u64 (N : Int))).setCell ⟨b, 1, none⟩ (.slice (some ⟨g3, 0, none⟩) l.length cap3)) = W4 at *
  go_wp2_with fail
  refine (told_c b g3 N (wbit l) _ hb (by omega)).mono ?_
  rintro e w3 ⟨v3, rfl, hown, k3⟩
  have gR := k3.heap (by simp) gR0
  obtain ⟨ad, ln, cp, rfl⟩ := slice_of_owns hown
  obtain ⟨c0, c1, z0, z1, e0, e1⟩ := box2 gR (.int .i64 N) (.slice ad ln cp)
  clear gR hb
  go_wp2_with fail
  refine bodyPost_ret (v := .agg #[.int .i64 N, .slice ad ln cp]) (by simp [results, Try.results31, go_sem, e0, e1]) rfl ⟨_, rfl, ?_, ((kA.trans0 k3).setCell (by right; simp) _).setCell (by right; simp) _⟩
  have h3 := IntsAt.of_owns (ownsRow_setCell_below (a := ⟨w.heap.size + 1, 1, none⟩) (ownsRow_setCell_below (a := ⟨w.heap.size + 1, 0, none⟩) hown (by rw [hszW]; show w.heap.size + 1 < _ + 2; omega) (.int .i64 N)) (by rw [hszW]; show w.heap.size + 1 < _ + 2; omega) (.slice ad ln cp))
  exact h3

end Go.Proofs.Ytfkgljohmgeocaa

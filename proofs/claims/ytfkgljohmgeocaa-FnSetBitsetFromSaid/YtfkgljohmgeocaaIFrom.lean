/-
  impl.From and impl.FromWithLength; SetBitsetFrom and Words.
-/
import Derived.Test.YtfkgljohmgeocaaFrom
namespace Go.Proofs.Ytfkgljohmgeocaa
set_option linter.unusedSimpArgs false
set_option linter.unusedVariables false
open Go.RowKit

set_option maxHeartbeats 1000000 in
theorem bfrom_c (m cap N : Nat) (ad : Option Addr) (w : World) (hN : 64 * m = N) (hm : m ≤ 300) :
    Calls Try.prog 40 #[.slice ad m cap] w fun e w' => e = .returned (.pointer (some ⟨w.heap.size, 0, none⟩)) ∧ w' = w.alloc (.cells #[.int .u64 N, .slice ad m cap] 73) := by
  have e1 : (m : Int) * 64 = (N : Int) := by omega
  have hN2 : N ≤ 20000 := by omega
  have hN3 : (N + 63) / 64 ≤ m := by omega
  clear hN
  go_enter Try.func40, Try.ntmps40
  go_wp2_with fail
  refine (fwl_c N m cap ad _ hN2 hN3).mono ?_
  rintro e w' ⟨rfl, rfl⟩
  go_wp2_with fail
  go_ret
  exact ⟨rfl, rfl⟩
set_option maxHeartbeats 1000000 in
theorem implFrom_c (N : Nat) (v : Value) (l : List Nat) (w : World) (hv : U64At w v l) (hl : l.length ≤ 30) (hlt : ∀ x ∈ l, x < 2 ^ 64) (hN : 64 * l.length = N) :
    Calls Try.prog 18 #[v] w fun e w' => ∃ v', e = .returned (.agg #[.int .i64 N, v']) ∧ IntsAt w' v' (onL N (wbit l)) ∧ Kept [] w w' := by
  have k0 : Kept [] w (w.alloc (.cells #[.int .i64 0, .slice none 0 0] 27)) := (Kept.refl _ _).alloc _
  have g0 := heap_alloc_new w (.cells #[.int .i64 0, .slice none 0 0] 27)
  have kb : Kept [] w ((w.alloc (.cells #[.int .i64 0, .slice none 0 0] 27)).alloc (.cells #[] 23)) := k0.alloc _
  have gb : ((w.alloc (.cells #[.int .i64 0, .slice none 0 0] 27)).alloc (.cells #[] 23)).heap[w.heap.size + 1]? = some (.cells #[] 23 (0, 0)) := by
    have := heap_alloc_new (w.alloc (.cells #[.int .i64 0, .slice none 0 0] 27)) (.cells #[] 23)
    simpa using this
  have gb0 : ((w.alloc (.cells #[.int .i64 0, .slice none 0 0] 27)).alloc (.cells #[] 23)).heap[w.heap.size]? = some (.cells #[.int .i64 0, .slice none 0 0] 27 (0, 0)) := alloc_heap_old g0 _
  have hv1 := hv.kept kb
  have hlz : ((w.alloc (.cells #[.int .i64 0, .slice none 0 0] 27)).alloc (.cells #[] 23)).heap.size = w.heap.size + 2 := by simp
  have hN2 : N ≤ 20000 := by omega
  have hok : WordsOk l N (wbit l) := words_self l hlt N (by omega) (fun j hj => wbit_past l j (by omega))
  have HOK := Lib.hid hok; clear hok
  go_enter Try.func18, Try.ntmps18
  go_wp2_with (at_builtin; refine wpList_appendU rfl (.tmp 3) (.tmp 4) rfl (w.heap.size + 1) gb rfl v l rfl hv1 (by omega) ?_)
  intro g cap w1 hr1 hg1 hgr
  have k1 : Kept [] w w1 := kb.grown hgr (fun q hq => by cases hq; right; omega)
  have gr1 : w1.heap[w.heap.size]? = some (.cells #[.int .i64 0, .slice none 0 0] 27 (0, 0)) := by
    rw [hgr.block _ (by rw [hlz]; omega) (by simp)]; exact gb0
  have hsz1 : w.heap.size + 2 ≤ w1.heap.size := by have := hgr.size; rw [hlz] at this; exact this
  have hglt := hr1.lt
  have hb : BSet (w1.alloc (.cells #[.int .u64 N, .slice (some ⟨g, 0, none⟩) l.length cap] 73)) w1.heap.size g N (wbit l) := ⟨by omega, cap, l, heap_alloc_new w1 _, hr1.alloc _, HOK.out⟩
  have kA : Kept [] w (w1.alloc (.cells #[.int .u64 N, .slice (some ⟨g, 0, none⟩) l.length cap] 73)) := k1.alloc _
  have gR0 := alloc_heap_old gr1 (.cells #[.int .u64 N, .slice (some ⟨g, 0, none⟩) l.length cap] 73)
  go_wp2_with fail
  refine (bfrom_c l.length cap N _ _ hN (by omega)).mono ?_
  rintro e w2 ⟨rfl, rfl⟩
  go_wp2_with fail
  refine (told_c w1.heap.size g N (wbit l) _ hb (by omega)).mono ?_
  rintro e w3 ⟨v3, rfl, hown, k3⟩
  have gR := k3.heap (by simp) gR0
  obtain ⟨ad, ln, cp, rfl⟩ := slice_of_owns hown
  obtain ⟨c0, c1, z0, z1, e0, e1⟩ := box2 gR (.int .i64 N) (.slice ad ln cp)
  clear gR hb
  go_wp2_with fail
  refine bodyPost_ret (v := .agg #[.int .i64 N, .slice ad ln cp]) (by simp [results, Try.results18, go_sem, e0, e1]) rfl ⟨_, rfl, ?_, ((kA.trans0 k3).setCell (by right; simp) _).setCell (by right; simp) _⟩
  have h3 := IntsAt.of_owns (ownsRow_setCell_below (a := ⟨w.heap.size, 1, none⟩) (ownsRow_setCell_below (a := ⟨w.heap.size, 0, none⟩) hown (by show w.heap.size < _ + 2; simp; omega) (.int .i64 N)) (by show w.heap.size < _ + 2; simp; omega) (.slice ad ln cp))
  exact h3
set_option maxHeartbeats 1000000 in
theorem implFromWithLength_c (N : Nat) (v : Value) (l : List Nat) (w : World) (hv : U64At w v l) (hl : l.length ≤ 30) (hlt : ∀ x ∈ l, x < 2 ^ 64) (hN : l.length = (N + 63) / 64) (hz : ∀ j, N ≤ j → wbit l j = false) :
    Calls Try.prog 16 #[.int .i64 N, v] w fun e w' => ∃ v', e = .returned (.agg #[.int .i64 N, v']) ∧ IntsAt w' v' (onL N (wbit l)) ∧ Kept [] w w' := by
  have k0 : Kept [] w (w.alloc (.cells #[.int .i64 0, .slice none 0 0] 27)) := (Kept.refl _ _).alloc _
  have g0 := heap_alloc_new w (.cells #[.int .i64 0, .slice none 0 0] 27)
  have kb : Kept [] w ((w.alloc (.cells #[.int .i64 0, .slice none 0 0] 27)).alloc (.cells #[] 23)) := k0.alloc _
  have gb : ((w.alloc (.cells #[.int .i64 0, .slice none 0 0] 27)).alloc (.cells #[] 23)).heap[w.heap.size + 1]? = some (.cells #[] 23 (0, 0)) := by
    have := heap_alloc_new (w.alloc (.cells #[.int .i64 0, .slice none 0 0] 27)) (.cells #[] 23)
    simpa using this
  have gb0 : ((w.alloc (.cells #[.int .i64 0, .slice none 0 0] 27)).alloc (.cells #[] 23)).heap[w.heap.size]? = some (.cells #[.int .i64 0, .slice none 0 0] 27 (0, 0)) := alloc_heap_old g0 _
  have hv1 := hv.kept kb
  have hlz : ((w.alloc (.cells #[.int .i64 0, .slice none 0 0] 27)).alloc (.cells #[] 23)).heap.size = w.heap.size + 2 := by simp
  have hN2 : N ≤ 20000 := by omega
  have hNle : (N + 63) / 64 ≤ l.length := by omega
  have hok : WordsOk l N (wbit l) := words_self l hlt N hN hz
  have HOK := Lib.hid hok; clear hok hz hN
  go_enter Try.func16, Try.ntmps16
  go_wp2_with (at_builtin; refine wpList_appendU rfl (.tmp 7) (.tmp 8) rfl (w.heap.size + 1) gb rfl v l rfl hv1 (by omega) ?_)
  intro g cap w1 hr1 hg1 hgr
  have k1 : Kept [] w w1 := kb.grown hgr (fun q hq => by cases hq; right; omega)
  have gr1 : w1.heap[w.heap.size]? = some (.cells #[.int .i64 0, .slice none 0 0] 27 (0, 0)) := by
    rw [hgr.block _ (by rw [hlz]; omega) (by simp)]; exact gb0
  have hsz1 : w.heap.size + 2 ≤ w1.heap.size := by have := hgr.size; rw [hlz] at this; exact this
  have hglt := hr1.lt
  have hb : BSet (w1.alloc (.cells #[.int .u64 N, .slice (some ⟨g, 0, none⟩) l.length cap] 73)) w1.heap.size g N (wbit l) := ⟨by omega, cap, l, heap_alloc_new w1 _, hr1.alloc _, HOK.out⟩
  have kA : Kept [] w (w1.alloc (.cells #[.int .u64 N, .slice (some ⟨g, 0, none⟩) l.length cap] 73)) := k1.alloc _
  have gR0 := alloc_heap_old gr1 (.cells #[.int .u64 N, .slice (some ⟨g, 0, none⟩) l.length cap] 73)
  go_wp2_with fail
  refine (fwl_c N l.length cap _ _ hN2 hNle).mono ?_
  rintro e w2 ⟨rfl, rfl⟩
  go_wp2_with fail
  refine (told_c w1.heap.size g N (wbit l) _ hb (by omega)).mono ?_
  rintro e w3 ⟨v3, rfl, hown, k3⟩
  have gR := k3.heap (by simp) gR0
  obtain ⟨ad, ln, cp, rfl⟩ := slice_of_owns hown
  obtain ⟨c0, c1, z0, z1, e0, e1⟩ := box2 gR (.int .i64 N) (.slice ad ln cp)
  clear gR hb
  go_wp2_with fail
  refine bodyPost_ret (v := .agg #[.int .i64 N, .slice ad ln cp]) (by simp [results, Try.results16, go_sem, e0, e1]) rfl ⟨_, rfl, ?_, ((kA.trans0 k3).setCell (by right; simp) _).setCell (by right; simp) _⟩
  have h3 := IntsAt.of_owns (ownsRow_setCell_below (a := ⟨w.heap.size, 1, none⟩) (ownsRow_setCell_below (a := ⟨w.heap.size, 0, none⟩) hown (by show w.heap.size < _ + 2; simp; omega) (.int .i64 N)) (by show w.heap.size < _ + 2; simp; omega) (.slice ad ln cp))
  exact h3

end Go.Proofs.Ytfkgljohmgeocaa

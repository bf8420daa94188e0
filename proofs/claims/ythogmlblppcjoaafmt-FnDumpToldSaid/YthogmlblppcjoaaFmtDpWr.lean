/-
  (*bytes.Buffer).Write and String over a row of any mark behind its cells.
-/
import Derived.Test.YthogmlblppcjoaaFmtDpGrow
import Derived.Lib.BufferRead
import Derived.Lib.BufferSrc
namespace Go.Proofs.YthogmlblppcjoaaFmt
set_option linter.unusedSimpArgs false
set_option linter.unusedVariables false
open Go.RowKit

/-- The buffer at b holds the bytes bs: row g, room cap. -/
def BufQ (w : World) (b g cap : Nat) (bs : List Value) : Prop :=
  ∃ lr cur fz, BHdr w b g bs.length cap lr ∧ w.heap[g]? = some (.cells cur 5 fz) ∧ Free fz cur.size ∧ cur.size = cap ∧ bs.length ≤ cap ∧ cap ≤ 9223372036854775807 ∧ g ≠ b ∧ cur.toList.take bs.length = bs
theorem BufQ.kept {S : List Nat} {w w' : World} {b g cap : Nat} {bs : List Value} (h : BufQ w b g cap bs) (k : Kept S w w') (hb : b ∉ S) (hg : g ∉ S) : BufQ w' b g cap bs := by
  obtain ⟨lr, cur, fz, h1, h2, h3⟩ := h
  exact ⟨lr, cur, fz, h1.kept k hb, k.heap hg h2, h3⟩
theorem BufQ.lt {w : World} {b g cap : Nat} {bs : List Value} (h : BufQ w b g cap bs) : b < w.heap.size ∧ g < w.heap.size := by
  obtain ⟨lr, cur, fz, h1, h2, h3⟩ := h
  exact ⟨lt_of_heap h1, lt_of_heap h2⟩

theorem Kept.setRow {S : List Nat} {a w : World} (h : Kept S a w) {g : Nat} (hg : g ∈ S ∨ a.heap.size ≤ g) (cs : Array Value) : Kept S a (w.setRow g cs) := by
  refine ⟨h.os, h.tape, h.output, by simpa [World.setRow] using h.size, fun k hk hn => ?_⟩
  have : g ≠ k := by
    rintro rfl
    rcases hg with hg | hg
    · exact hn hg
    · omega
  rw [setRow_other _ _ _ _ (by omega)]
  exact h.block k hk hn

/-- What is written behind the bytes. -/
theorem written (bs cs : List Value) (cur : Array Value) (n cap : Nat) (hn : cs.length = n) (hcs : cur.size = cap) (h : bs.length + n ≤ cap) (ht : cur.toList.take bs.length = bs) (Y : Array Value)
    (hY : (cur.toList.take bs.length ++ cs ++ cur.toList.drop (bs.length + n)).toArray = Y) : Y.size = cap ∧ Y.toList.take (bs ++ cs).length = bs ++ cs := by
  have hYl : Y.toList = bs ++ cs ++ cur.toList.drop (bs.length + n) := by rw [← hY, ht]
  have hl : cur.toList.length = cap := by rw [Array.length_toList]; exact hcs
  constructor
  · have : Y.toList.length = cap := by rw [hYl, List.length_append, List.length_append, hn, List.length_drop, hl]; omega
    simpa using this
  · rw [hYl, List.take_append_of_le_length (Nat.le_refl _), List.take_of_length_le (Nat.le_refl _)]

set_option maxHeartbeats 4000000 in
set_option maxRecDepth 100000 in
theorem write_c (b g cap n c : Nat) (bs cs : List Value) (a : Addr) (w : World) (h : BufQ w b g cap bs) (h1 : ∀ v ∈ bs, v.oneCell' = true) (hn : cs.length = n) (hn1 : 1 ≤ n) (hab : a.block ≠ b) (hag : a.block ≠ g)
    (hsrc : ∀ j v, cs[j]? = some v → w.cell? (a.add j) = some v) (hal : a.block < w.heap.size) (h1c : ∀ v ∈ cs, v.oneCell' = true) (hlim : bs.length + n ≤ 70368744177664) :
    Calls Tryf.prog 42 #[.pointer (some ⟨b, 0, none⟩), .slice (some a) n c] w fun e w' => e = .returned (.tuple #[.int .i64 n, .nilIface]) ∧ Kept [b, g] w w' ∧ ∃ g' cap', (g' = g ∨ w.heap.size ≤ g') ∧ BufQ w' b g' cap' (bs ++ cs) := by
  have hq := h
  obtain ⟨lr, cur, fz, hh, hg, hfz, hcs, hlc, hc2, hgb, htk⟩ := h
  obtain ⟨l, hl⟩ : ∃ l, bs.length = l := ⟨_, rfl⟩
  rw [hl] at hh hlc htk hlim
  have c2 := hh.c2
  have f2 := hh.free 2
  have hh' := hh.set2 0
  have k0 : Kept [b, g] w (w.setCell ⟨b, 2, none⟩ (.int .i8 0)) := (Kept.refl _ _).setCell (.inl (by simp)) _
  have hg' := setCell_heap_other (b := b) (o := 2) hg hgb (.int .i8 0)
  have hsrc' : ∀ j v, cs[j]? = some v → (w.setCell ⟨b, 2, none⟩ (.int .i8 0)).cell? (a.add j) = some v := fun j v hj => k0.cell (by rw [Lib.block_add]; simp [hab, hag]) (hsrc j v hj)
  have hlt := hq.lt
  have hltw : a.block < (w.setCell ⟨b, 2, none⟩ (.int .i8 0)).heap.size := by simpa [World.setCell] using hal
  by_cases hr : n ≤ cap - l
  · have hcp : ∀ W, Kept [b] (w.setCell ⟨b, 2, none⟩ (.int .i8 0)) W → (Builtin.copy_ #[55, 55] 3 #[.slice (some ⟨g, l, none⟩) n (cap - l), .slice (some a) n c]).run Tryf.prog W = .ok (goInt n) (W.setRow g (cur.toList.take l ++ cs ++ cur.toList.drop (l + n)).toArray) := by
      intro W k
      have := run_copy_q Tryf.prog W 55 55 3 5 g l n (cap - l) a n c cur 5 fz cs Tryf.underlying55 Tryf.sizeByte (k.heap (by simp [hgb]) hg') hfz (by rw [hn]; exact (Nat.min_self n).symm) (fun j v hj => k.cell (by rw [Lib.block_add]; simp [hab]) (hsrc' j v hj)) (by omega) h1c
      rwa [hn] at this
    have kS : Kept [b] (w.setCell ⟨b, 2, none⟩ (.int .i8 0)) ((w.setCell ⟨b, 2, none⟩ (.int .i8 0)).setCell ⟨b, 0, none⟩ (.slice (some ⟨g, 0, none⟩) (l + n) cap)) := (Kept.refl _ _).setCell (.inl (by simp)) _
    have hcp1 := hcp _ kS
    have hd0 := (hh'.set0 g (l + n) cap).c0
    have hd := hh'.set0 g (l + n) cap
    obtain ⟨Y, hY⟩ : ∃ Y, (cur.toList.take l ++ cs ++ cur.toList.drop (l + n)).toArray = Y := ⟨_, rfl⟩
    rw [hY] at hcp1
    have hend := written bs cs cur n cap hn hcs (by omega) (by rw [hl]; exact htk) Y (by rw [hl]; exact hY)
    have HE := Lib.hid hend
    clear hcp hY hend hsrc hsrc' htk
    go_enter Tryf.func42, Tryf.ntmps42
    go_wp2_with fail
    refine (tryGrow_room b g l cap n 0 _ hh' hlc hc2 hr).mono ?_
    rintro e w1 ⟨rfl, rfl⟩
    go_wp2_with fail
    go_ret2
    refine ⟨rfl, (k0.setCell (.inl (by simp)) _).setRow (.inl (by simp)) _, g, cap, .inl rfl, 0, Y, fz, ?_, ?_, ?_, HE.out.1, by rw [List.length_append, hn]; omega, hc2, hgb, HE.out.2⟩
    · rw [List.length_append, hn, hl]
      show (World.setRow _ _ _).heap[b]? = _
      rw [setRow_other _ _ _ _ (by omega)]
      exact hd
    · exact setRow_heap _ _ cur Y 5 fz (kS.heap (by simp [hgb]) hg')
    · rw [HE.out.1, ← hcs]; exact hfz
  · have hgrow : ∀ w : World, BHdr w b g l cap 0 → w.heap[g]? = some (.cells cur 5 fz) → Calls Tryf.prog 44 #[.pointer (some ⟨b, 0, none⟩), .int .i64 n] w fun e w' => e = .returned (.int .i64 l) ∧ ∃ cap2 cells, BHdr w' b w.heap.size (l + n) cap2 0 ∧ w'.heap[w.heap.size]? = some (.cells cells 5 (0, 0)) ∧
        cells.size = cap2 ∧ cells.toList.take l = cur.toList.take l ∧ l + n ≤ cap2 ∧ cap2 ≤ maxLen ∧ Kept [b] w w' := by
      intro w hh hg
      by_cases hl0 : l = 0
      · subst hl0
        exact grow_c0 b g cap n 0 cur fz w hh hg hlc (by omega) hcs hgb (by rw [htk]; exact h1) hn1 (by omega) (by omega)
      · exact grow_cl b g l cap n 0 cur fz w hh hg hlc (by omega) hcs hgb (by rw [htk]; exact h1) hn1 (by omega) (by omega) hl0
    have HG := Lib.hid hgrow
    clear hgrow
    go_enter Tryf.func42, Tryf.ntmps42
    go_wp2_with fail
    refine (tryGrow_none b g l cap n 0 _ hh' hlc hc2 (by omega) (by omega)).mono ?_
    rintro e w1 ⟨rfl, rfl⟩
    go_wp2_with fail
    refine (HG.out _ hh' hg').mono ?_
    rintro e w2 ⟨rfl, cap2, cells, hb2, hr2, hsz2, htk2, hcap2, hcm2, k2⟩
    have hcap3 : cap2 ≤ 9223372036854775807 := by unfold maxLen at hcm2; omega
    clear hcm2 HG
    generalize hNe : (w.setCell ⟨b, 2, none⟩ (.int .i8 0)).heap.size = N at *
    have hNw : w.heap.size ≤ N := by rw [← hNe]; exact k0.size
    have d0 := hb2.c0
    have hcp := run_copy_q Tryf.prog w2 55 55 3 5 N l n (cap2 - l) a n c cells 5 (0, 0) cs Tryf.underlying55 Tryf.sizeByte hr2 (.inl rfl) (by rw [hn]; exact (Nat.min_self n).symm) (fun j v hj => k2.cell (by rw [Lib.block_add]; simp [hab]) (hsrc' j v hj)) (by omega) h1c
    rw [hn] at hcp
    obtain ⟨Y, hY⟩ : ∃ Y, (cells.toList.take l ++ cs ++ cells.toList.drop (l + n)).toArray = Y := ⟨_, rfl⟩
    rw [hY] at hcp
    have hend := written bs cs cells n cap2 hn hsz2 (by omega) (by rw [hl, htk2]; exact htk) Y (by rw [hl]; exact hY)
    have HE := Lib.hid hend
    have HK := Lib.hid k0
    have HSS := Lib.hid hsrc'
    clear hY hend hsrc hsrc' htk htk2
    go_wp2_with fail
    go_ret2
    have kk : Kept [b, g] w w2 := k0.trans k2 (by simp)
    refine ⟨rfl, kk.setRow (.inr hNw) _, N, cap2, .inr hNw, 0, Y, (0, 0), ?_, setRow_heap _ _ cells Y 5 (0, 0) hr2, .inl rfl, HE.out.1, by rw [List.length_append, hn]; omega, hcap3, by omega, HE.out.2⟩
    rw [List.length_append, hn, hl]
    show (World.setRow _ _ _).heap[b]? = _
    rw [setRow_other _ _ _ _ (by omega)]
    exact hb2

set_option maxHeartbeats 1000000 in
theorem bufString_c (b g cap : Nat) (l : List UInt8) (w : World) (h : BufQ w b g cap (Lib.byteCells l)) :
    Calls Tryf.prog 16 #[.pointer (some ⟨b, 0, none⟩)] w fun e w' => e = .returned (.string ⟨l.toArray⟩) ∧ ∃ n, w' = w.drewN n := by
  obtain ⟨lr, cur, fz, hh, hg, hfz, hcs, hlc, hc2, hgb, htk⟩ := h
  rw [Lib.byteCells_length] at hh htk hlc
  have c0 := hh.c0
  have c1 := hh.c1
  have hcv := run_convert_bytes_back (P := Tryf.prog) w.drew 55 9 5 ⟨g, 0, none⟩ cap l Tryf.underlying55 Tryf.underlying5 Tryf.underlying9 (Lib.bytes_of_row (w := w.drew) hg htk)
  go_enter Tryf.func16, Tryf.ntmps16
  go_wp2
  go_region
  all_goals (go_wp2; go_ret; exact ⟨rfl, 1, rfl⟩)

end Go.Proofs.YthogmlblppcjoaaFmt

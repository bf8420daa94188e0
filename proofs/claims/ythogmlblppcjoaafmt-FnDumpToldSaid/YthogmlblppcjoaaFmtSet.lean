/-
  The contracts of the bit set's smallest functions, of extendSet and of Set, for sets of at most 20000 bits.
-/
import Derived.Test.YthogmlblppcjoaaFmtBits
namespace Go.Proofs.YthogmlblppcjoaaFmt
set_option linter.unusedSimpArgs false
set_option linter.unusedVariables false
open Go.RowKit

theorem Tryf.info3 : (Tryf.prog.info? 3).map (fun i => (i.zero, i.size, i.bytes)) = some (some (.int .i64 0), 1, 8) := by kernel_rfl
theorem Tryf.infoU : (Tryf.prog.info? 51).map (fun i => (i.zero, i.size, i.bytes)) = some (some (.int .u64 0), 1, 8) := by kernel_rfl
theorem Tryf.sizeU : (Tryf.prog.info? 51).map (·.size) = some 1 := by kernel_rfl
theorem Tryf.infoB : (Tryf.prog.info? 4).map (fun i => (i.zero, i.size, i.bytes)) = some (some (.bool false), 1, 1) := by kernel_rfl

set_option maxHeartbeats 400000 in
theorem wordsIndex_c (i : Nat) (hi : i < 2^64) (w : World) :
    Calls Tryf.prog 19 #[.int .u64 i] w fun e w' => e = .returned (.int .u64 ((i % 64 : Nat) : Int)) ∧ w = w' := by
  go_enter Tryf.func19, Tryf.ntmps19
  go_wp2
  go_ret
  exact ⟨by simp [and63 i hi], rfl⟩
theorem wordsIndex_q (i : Nat) (hi : i ≤ 40000) (w : World) :
    Calls Tryf.prog 19 #[.int .u64 i] w fun e w' => e = .returned (.int .u64 ((i % 64 : Nat) : Int)) ∧ w' = w :=
  (wordsIndex_c i (by omega) w).mono fun _ _ h => ⟨h.1, h.2.symm⟩

set_option maxHeartbeats 400000 in
theorem wordsNeeded_c (x : Int) (h0 : 0 ≤ x) (h1 : x ≤ 40000) (w : World) :
    Calls Tryf.prog 17 #[.int .u64 x] w fun e w' => e = .returned (.int .i64 ((x + 63) / 64)) ∧ w = w' := by
  go_enter Tryf.func17, Tryf.ntmps17
  go_wp2
  go_ret
  exact ⟨rfl, rfl⟩

set_option maxHeartbeats 400000 in
theorem cap_c (w : World) : Calls Tryf.prog 21 #[] w fun e w' => e = .returned (.int .u64 18446744073709551615) ∧ w = w' := by
  go_enter Tryf.func21, Tryf.ntmps21
  go_wp2
  go_ret
  exact ⟨rfl, rfl⟩

/-- What becomes of a set that gets more words: zeros. -/
theorem WordsOk.grow {ws : List Nat} {n n' : Nat} {f : Nat → Bool} (h : WordsOk ws n f) (hn : n ≤ n') : WordsOk (ws ++ List.replicate ((n' + 63) / 64 - ws.length) 0) n' (fun j => decide (j < n) && f j) := by
  have hl := h.length
  refine WordsOk.mk' (by simp; omega) (fun k => ?_) (fun k t ht hk => ?_)
  · by_cases hk : k < ws.length
    · rw [List.getD_eq_getElem?_getD, List.getElem?_append_left hk, ← List.getD_eq_getElem?_getD]; exact h.word k
    · rw [List.getD_eq_getElem?_getD, List.getElem?_append_right (by omega), List.getElem?_replicate]; split <;> simp
  · by_cases hk : k < ws.length
    · rw [List.getD_eq_getElem?_getD, List.getElem?_append_left hk, ← List.getD_eq_getElem?_getD, h.testAt k t ht]
      by_cases h1 : 64 * k + t < n
      · simp [h1, show 64 * k + t < n' by omega]
      · simp [h1]
    · rw [List.getD_eq_getElem?_getD, List.getElem?_append_right (by omega), List.getElem?_replicate]
      have : ¬ 64 * k + t < n := by omega
      split <;> simp [this]

/-- The loop that clears the new words. -/
def ClearInv (w wr : World) (b g n m cap k : Nat) (ws : List Nat) : Prop :=
  Kept [b, g] w wr ∧ Hdr wr b n g m cap ∧ URow wr g (ws ++ List.replicate k 0) cap

theorem ClearInv.step {w wr : World} {b g n m cap k : Nat} {ws : List Nat} (h : ClearInv w wr b g n m cap k ws) (hne : b ≠ g) (hk : ws.length + k < cap) : ClearInv w (wr.setCell ⟨g, ws.length + k, none⟩ (.int .u64 0)) b g n m cap (k + 1) ws := by
  obtain ⟨h1, h2, h3⟩ := h
  refine ⟨h1.setCell (by left; simp) _, h2.other hne _, ?_⟩
  have := h3.push 0 (by simpa using hk)
  rw [List.length_append, List.length_replicate] at this
  rw [List.replicate_succ', ← List.append_assoc]
  exact this

set_option maxHeartbeats 1000000 in
set_option maxRecDepth 100000 in
theorem extendSet_c (b g n i : Nat) (f : Nat → Bool) (w : World) (h : BSet w b g n f) (hni : n ≤ i) (hi : i ≤ 20000) :
    Calls Tryf.prog 18 #[.pointer (some ⟨b, 0, none⟩), .int .u64 i] w fun e w' => e = .returned (.tuple #[]) ∧ ∃ g', BSet w' b g' (i + 1) (fun j => decide (j < n) && f j) ∧ (g' = g ∨ w.heap.size ≤ g') ∧ Kept [b, g] w w' := by
  obtain ⟨hne, cap, ws, hh, hr, hw⟩ := h
  have hl := hw.length
  have hle := hr.le
  have hc0 := hh.c0
  have hc1 := hh.c1
  have hf0 := hh.free 0
  have hf1 := hh.free 1
  have hblt := hh.lt
  have hglt := hr.lt
  have hg := hw.grow (n' := i + 1) (by omega)
  obtain ⟨M, hM⟩ : ∃ M, (i + 1 + 63) / 64 = M := ⟨_, rfl⟩
  rw [hM] at hg
  have HM : Hid (((i : Int) + 1 + 63) / 64 = (M : Int)) := by show _ = _; omega
  have hM1 : M ≤ 313 := by omega
  have hM2 : ws.length ≤ M := by omega
  have HL : Hid (ws.length = (n + 63) / 64) := hl
  obtain ⟨m, hm⟩ : ∃ m, ws.length = m := ⟨_, rfl⟩
  rw [hm] at hle hM2 hh hc1
  clear hl hM
  have hnil := fun (wx : World) (a : Addr) (n c : Nat) => Lib.run_eql_slice_nil (P := Tryf.prog) wx 41 51 (some a) n c 0 0 Tryf.underlying41
  simp only [Option.isNone] at hnil
  obtain ⟨x, hx⟩ : ∃ x : Int, x = (i : Int) := ⟨_, rfl⟩
  have hx0 : 0 ≤ x := by omega
  have hx1 : x ≤ 20000 := by omega
  rw [← hx] at HM ⊢
  have hd : decide (18446744073709551615 ≤ x) = false := by simp; omega
  have Hx := Lib.hid hx; clear hx hni hi
  have E1 : Hid (x + 1 = ((i + 1 : Nat) : Int)) := by show _ = _; rw [Hx.out]; omega
  by_cases hcap : M ≤ cap
  · by_cases hlt : m < M
    · have h1 : Hdr (w.setCell ⟨b, 1, none⟩ (.slice (some ⟨g, 0, none⟩) M cap)) b n g M cap := hh.setRow g M cap
      have h2 : URow (w.setCell ⟨b, 1, none⟩ (.slice (some ⟨g, 0, none⟩) M cap)) g ws cap := hr.other (Ne.symm hne) _
      have h0 : ClearInv w (w.setCell ⟨b, 1, none⟩ (.slice (some ⟨g, 0, none⟩) M cap)) b g n M cap 0 ws := ⟨(Kept.refl _ _).setCell (by left; simp) _, h1, by simpa using h2⟩
      clear h1 h2
      have Hm := Lib.hid hm; clear hm
      go_enter Tryf.func18, Tryf.ntmps18
      go_wp2_with (first
        | (go_at_call 21; refine (cap_c _).mono ?_; rintro e w' ⟨rfl, rfl⟩)
        | (go_at_call 17; refine (wordsNeeded_c _ (by omega) (by omega) _).mono ?_; rintro e w' ⟨rfl, rfl⟩; rw [HM.out]))
      go_loopw [58] (fun v wr => ∃ k : Nat, k ≤ M - m ∧ v = .int .i64 k ∧ ClearInv w wr b g n M cap k ws) (fun v _ => (M - m) - (intOf v).toNat)
      case atStart => exact ⟨0, Nat.zero_le _, rfl, h0⟩
      case round =>
        obtain ⟨k, hk, rfl, hinv⟩ := hrel
        by_cases hkl : k < M - m
        · have hfz := hinv.2.2.free (m + k)
          obtain ⟨u, hu⟩ := hinv.2.2.any (m + k) (by omega)
          have R := hinv.step hne (by rw [Hm.out]; omega)
          rw [Hm.out] at R
          go_wp2
          go_roundw
          case rel => exact ⟨k + 1, by omega, by go_num, R⟩
          case measure => simp [intOf]; omega
        · have hkm : k = M - m := by omega
          obtain ⟨i1, i2, i3⟩ := hinv
          have c1 := i2.c1
          have c0 := i2.c0
          have z0 := i2.free 0
          clear hnil
          go_wp2
          go_end0
          refine ⟨rfl, g, ⟨hne, cap, _, ?_, ?_, hg⟩, .inl rfl, i1.setCell (by left; simp) _⟩
          · rw [E1.out]
            have := i2.setLen (i + 1)
            rw [List.length_append, List.length_replicate, Hm.out, show m + (M - m) = M by omega]; exact this
          · rw [Hm.out, ← hkm]; exact i3.other (Ne.symm hne) _
    · have hmM : m = M := by omega
      subst hmM
      have h1 : Hdr (w.setCell ⟨b, 1, none⟩ (.slice (some ⟨g, 0, none⟩) m cap)) b n g m cap := hh.setRow g m cap
      have h2 : URow (w.setCell ⟨b, 1, none⟩ (.slice (some ⟨g, 0, none⟩) m cap)) g ws cap := hr.other (Ne.symm hne) _
      have Hm := Lib.hid hm; clear hm
      go_enter Tryf.func18, Tryf.ntmps18
      go_wp2_with (first
        | (go_at_call 21; refine (cap_c _).mono ?_; rintro e w' ⟨rfl, rfl⟩)
        | (go_at_call 17; refine (wordsNeeded_c _ (by omega) (by omega) _).mono ?_; rintro e w' ⟨rfl, rfl⟩; rw [HM.out]))
      go_end0
      rw [Hm.out, show m - m = 0 by omega, List.replicate_zero, List.append_nil] at hg
      refine ⟨rfl, g, ⟨hne, cap, ws, ?_, h2.other (Ne.symm hne) _, hg⟩, .inl rfl, ((Kept.refl _ _).setCell (by left; simp) _).setCell (by left; simp) _⟩
      rw [E1.out, Hm.out]
      exact h1.setLen (i + 1)
  · obtain ⟨i0, hi0, hz0, hz1, hz2⟩ := info_parts Tryf.infoU
    have Hm := Lib.hid hm; clear hm
    have k1 : Kept [b, g] w (w.alloc (.cells (zrow (.int .u64 0) (2 * M)) 51)) := (Kept.refl _ _).alloc _
    have r1 := URow.new w M (2 * M) (by omega)
    have hsrc : ∀ j, j < ws.length → (w.alloc (.cells (zrow (.int .u64 0) (2 * M)) 51)).cell? ⟨g, 0 + j, none⟩ = some (.int .u64 (ws.getD j 0 : Nat)) := fun j hj => by rw [Nat.zero_add]; exact (hr.alloc _).cell j hj
    have HS := Lib.hid hsrc; clear hsrc
    go_enter Tryf.func18, Tryf.ntmps18
    go_wp2_with (first
      | (go_at_call 21; refine (cap_c _).mono ?_; rintro e w' ⟨rfl, rfl⟩)
      | (go_at_call 17; refine (wordsNeeded_c _ (by omega) (by omega) _).mono ?_; rintro e w' ⟨rfl, rfl⟩; rw [HM.out])
      | (refine wpList_mk rfl (.tmp 72) (.tmp 74) 41 51 rfl i0 (.int .u64 0) 8 Tryf.underlying41 hi0 hz0 hz1 hz2 rfl _ _ M (2 * M) rfl rfl (by omega) (by omega) (by omega) (by omega) (by omega) ?_)
      | (refine wpList_copyU rfl (.tmp 76) (.tmp 80) 41 rfl Tryf.underlying41 Tryf.sizeU w.heap.size 0 M (2 * M) g 0 m cap rfl rfl _ _ r1 ws (by rw [Hm.out]; exact (Nat.min_eq_left hM2).symm) HS.out (by rw [List.length_replicate, Hm.out]; omega) ?_))
    intro w1 r2 k2 hsz
    have hgn : w.heap.size ≠ b := by omega
    have hh1 : Hdr w1 b n g m cap := (hh.alloc _).kept k2 (by simp; omega)
    have c0 := hh1.c0
    have c1 := hh1.c1
    have z0 := hh1.free 0
    have z1 := hh1.free 1
    go_wp2
    go_end0
    refine ⟨rfl, w.heap.size, ⟨Ne.symm hgn, 2 * M, _, ?_, (r2.other hgn _).other hgn _, ?_⟩, .inr (Nat.le_refl _), ((k1.trans k2 (fun i hi => by simp at hi; subst hi; right; exact Nat.le_refl _)).setCell (by left; simp) _).setCell (by left; simp) _⟩
    · rw [E1.out]
      have e : (splice (List.replicate M 0) 0 ws).length = M := by rw [length_splice _ _ _ (by rw [List.length_replicate, Hm.out]; omega), List.length_replicate]
      rw [e]
      exact (hh1.setRow w.heap.size M (2 * M)).setLen (i + 1)
    · have e : splice (List.replicate M 0) 0 ws = ws ++ List.replicate (M - ws.length) 0 := by unfold splice; simp
      rw [e]; exact hg

end Go.Proofs.YthogmlblppcjoaaFmt

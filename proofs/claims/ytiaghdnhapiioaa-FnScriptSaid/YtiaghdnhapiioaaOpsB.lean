/-
  The contracts of Shrink and Compact.
-/
import Derived.Test.YtiaghdnhapiioaaClean
import Derived.Test.YtiaghdnhapiioaaAlike
namespace Go.Proofs.Ytiaghdnhapiioaa
set_option linter.unusedSimpArgs false
set_option linter.unusedVariables false
open Go.RowKit


theorem wordsIndexZ_q (x : Int) (h0 : 0 ≤ x) (hi : x ≤ 20000) (w : World) :
    Calls Try.prog 63 #[.int .u64 x] w fun e w' => e = .returned (.int .u64 (x % 64)) ∧ w' = w := by
  obtain ⟨k, rfl⟩ := Int.eq_ofNat_of_zero_le h0
  refine (wordsIndex_c k (by omega) w).mono fun _ _ h => ⟨?_, h.2.symm⟩
  rw [h.1]; simp
set_option maxHeartbeats 1000000 in
set_option maxRecDepth 100000 in
theorem shrink_c (b g n i : Nat) (f : Nat → Bool) (w : World) (h : BSet w b g n f) (hn : n ≤ 20000) (hi : i < n) :
    Calls Try.prog 58 #[.pointer (some ⟨b, 0, none⟩), .int .u64 i] w fun e w' => e = .returned (.pointer (some ⟨b, 0, none⟩)) ∧ ∃ g', BSet w' b g' (i + 1) f ∧ w.heap.size ≤ g' ∧ Kept [b] w w' := by
  obtain ⟨hne, cap, ws, hh, hr, hw⟩ := h
  have hl := hw.length
  have hle := hr.le
  have hc0 := hh.c0
  have hc1 := hh.c1
  have hblt := hh.lt
  have hglt := hr.lt
  obtain ⟨M, hM⟩ : ∃ M, (i + 1 + 63) / 64 = M := ⟨_, rfl⟩
  have HM : Hid (((i : Int) + 1 + 63) / 64 = (M : Int)) := by show _ = _; omega
  have hM1 : M ≤ 313 := by omega
  have hM2 : M ≤ ws.length := by omega
  have hM0 : 0 < M := by omega
  have hloose := hw.take hi hM.symm
  obtain ⟨i0, hi0, hz0, hz1, hz2⟩ := info_parts Try.infoU
  have k1 : Kept [b] w (w.alloc (.cells (zrow (.int .u64 0) M) 72)) := (Kept.refl _ _).alloc _
  have r1 := URow.new w M M (Nat.le_refl _)
  obtain ⟨vs, hvs⟩ : ∃ vs, ws.take M = vs := ⟨_, rfl⟩
  have hsrc : ∀ j, j < vs.length → (w.alloc (.cells (zrow (.int .u64 0) M) 72)).cell? ⟨g, 0 + j, none⟩ = some (.int .u64 (vs.getD j 0 : Nat)) := fun j hj => by
    rw [Nat.zero_add, ← hvs]; rw [← hvs] at hj
    exact ((hr.alloc _).take M).cell j hj
  have hvl : vs.length = M := by rw [← hvs, List.length_take]; omega
  rw [hvs] at hloose
  have HS := Lib.hid hsrc; clear hsrc
  have HV := Lib.hid hvl; clear hvl
  obtain ⟨m, hm⟩ : ∃ m, ws.length = m := ⟨_, rfl⟩
  rw [hm] at hle hM2 hh hc1
  have HL := Lib.hid hl; clear hl
  have Hm := Lib.hid hm; clear hm
  clear hM hvs hw
  obtain ⟨x, hx⟩ : ∃ x : Int, x = (i : Int) := ⟨_, rfl⟩
  have hx0 : 0 ≤ x := by omega
  have hx1 : x ≤ 20000 := by omega
  have hxn : x < (n : Int) := by omega
  rw [← hx] at HM ⊢
  have Hx := Lib.hid hx; clear hx hi
  have E1 : Hid (x + 1 = ((i + 1 : Nat) : Int)) := by show _ = _; rw [Hx.out]; omega
  go_enter Try.func58, Try.ntmps58
  go_wp2_with (first
    | (go_at_call 70; refine (wordsNeeded_c _ (by omega) (by omega) _).mono ?_; rintro e w' ⟨rfl, rfl⟩; rw [HM.out])
    | (refine wpList_mk rfl (.tmp 28) (.tmp 28) 69 72 rfl i0 (.int .u64 0) 8 Try.underlying69 hi0 hz0 hz1 hz2 rfl _ _ M M rfl rfl rfl rfl (Nat.le_refl _) (by omega) (by omega) ?_)
    | (refine wpList_copyU rfl (.tmp 30) (.tmp 36) 69 rfl Try.underlying69 Try.sizeU w.heap.size 0 M M g 0 M cap rfl rfl _ _ r1 vs (by rw [HV.out]; exact (Nat.min_self M).symm) HS.out (by rw [List.length_replicate, HV.out]; omega) ?_))
  intro w1 r2 k2 hsz
  have hgn : w.heap.size ≠ b := by omega
  have hh1 : Hdr w1 b n g m cap := (hh.alloc _).kept k2 (by simp; omega)
  have e : splice (List.replicate M 0) 0 vs = vs := by unfold splice; rw [HV.out]; simp
  rw [e] at r2
  have c0 := hh1.c0
  have c1 := hh1.c1
  have z0 := hh1.free 0
  have z1 := hh1.free 1
  have hh2 := (hh1.setRow w.heap.size M M).setLen (i + 1)
  have hr2 := (r2.other (o := 1) hgn (.slice (some ⟨w.heap.size, 0, none⟩) M M)).other (o := 0) hgn (.int .u64 ((i + 1 : Nat) : Int))
  have hk2 := ((k1.trans k2 (fun i hi => by simp at hi; subst hi; right; exact Nat.le_refl _)).setCell (p := ⟨b, 1, none⟩) (by left; simp) (.slice (some ⟨w.heap.size, 0, none⟩) M M)).setCell (p := ⟨b, 0, none⟩) (by left; simp) (.int .u64 ((i + 1 : Nat) : Int))
  rw [← E1.out] at hh2 hr2 hk2
  by_cases hmod : (x + 1) % 64 = 0
  · have hmod2 : (i + 1) % 64 = 0 := by have := E1.out; omega
    go_wp2
    go_ret
    refine ⟨rfl, w.heap.size, ⟨Ne.symm hgn, M, vs, ?_, hr2, hloose.exact hmod2⟩, Nat.le_refl _, hk2⟩
    rw [HV.out]
    have := hh2
    rw [E1.out] at this
    rw [E1.out]
    exact this
  · have hmod2 : (i + 1) % 64 ≠ 0 := by have := E1.out; omega
    have hcl := hloose.clean hmod2 (M - 1) (by rw [HV.out]; omega)
    have hx := hr2.cell (M - 1) (by rw [HV.out]; omega)
    have hf := hr2.free (M - 1)
    have c0' := hh2.c0
    have c1' := hh2.c1
    have i1 : (0 : Int) ≤ (M : Int) - 1 := by omega
    have i2 : (M : Int) - 1 < (M : Int) := by omega
    have i3 : ((M : Int) - 1).toNat = M - 1 := by omega
    obtain ⟨X, hX⟩ : ∃ X, vs.getD (M - 1) 0 = X := ⟨_, rfl⟩
    rw [hX] at hx hcl
    have hXlt : X < 2 ^ 64 := by rw [← hX, getD_in _ _ _ (show M - 1 < vs.length by rw [HV.out]; omega)]; exact hloose.lt _ (List.getElem_mem _)
    have hr3 := hr2.set (M - 1) (X % 2 ^ ((i + 1) % 64))
    obtain ⟨y, hy⟩ : ∃ y, (i + 1) % 64 = y := ⟨_, rfl⟩
    have hy1 : (x + 1) % 64 = (y : Int) := by have := E1.out; omega
    have hy2 : (y : Int) % 64 = (y : Int) := by omega
    have hy3 : (0 : Int) < (y : Int) := by omega
    have hy4 : (y : Int) < 64 := by omega
    have hy5 : ((64 : Int) - (y : Int)).toNat = 64 - y := by omega
    have hy6 : ¬ (y : Int) = 0 := by omega
    have hy7 : min (64 - y) 64 = 64 - y := by omega
    have hw1 : IntKind.i64.wrap ((M : Int) - 1) = (M : Int) - 1 := by rw [IntKind.wrap_i64]; omega
    have hw2 : IntKind.u64.wrap ((64 : Int) - (y : Int)) = (64 : Int) - (y : Int) := by rw [IntKind.wrap_u64]; omega
    have hM1' : (1 : Int) ≤ (M : Int) := by omega
    rw [hy] at hcl hr3
    have HO := Lib.hid (mask_word X y hXlt (by omega) (by omega))
    go_wp2
    generalize ((w1.setCell ⟨b, 1, none⟩ (.slice (some ⟨w.heap.size, 0, none⟩) M M)).setCell ⟨b, 0, none⟩ (.int .u64 (x + 1))) = W at *
    go_region_with (go_at_call 63; refine (wordsIndexZ_q _ (by omega) (by omega) _).mono ?_; rintro e w' ⟨rfl, rfl⟩)
    all_goals
      go_wp2
      go_ret
      rw [HO.out]
      refine ⟨rfl, w.heap.size, ⟨Ne.symm hgn, M, _, ?_, hr3, hcl⟩, Nat.le_refl _, ((hk2.drewN 1).setCell (by right; simp) _)⟩
      rw [List.length_set, HV.out]
      exact hh2.other (Ne.symm hgn) _

set_option maxHeartbeats 400000 in
theorem shrinkOut_c (b g n i : Nat) (f : Nat → Bool) (w : World) (h : BSet w b g n f) (hi : n ≤ i) :
    Calls Try.prog 58 #[.pointer (some ⟨b, 0, none⟩), .int .u64 i] w fun e w' => e = .returned (.pointer (some ⟨b, 0, none⟩)) ∧ w = w' := by
  have hc0 : w.cell? ⟨b, 0, none⟩ = some (.int .u64 n) := by obtain ⟨_, cap, ws, hh, _, _⟩ := h; exact hh.c0
  clear h
  go_enter Try.func58, Try.ntmps58
  go_wp2
  go_ret
  exact ⟨rfl, rfl⟩

def CPost (w w' : World) (b g n : Nat) (f : Nat → Bool) (e : Ending) : Prop :=
  e = .returned (.pointer (some ⟨b, 0, none⟩)) ∧ ∃ n' g', BSet w' b g' n' f ∧ n' ≤ n ∧ (∀ j, n' ≤ j → j < n → f j = false) ∧ (g' = g ∨ w.heap.size ≤ g') ∧ Kept [b, g] w w'
theorem WordsOk.high {ws : List Nat} {n k : Nat} {f : Nat → Bool} (h : WordsOk ws n f) (hz : ∀ q, k ≤ q → ws.getD q 0 = 0) (j : Nat) (hj : 64 * k ≤ j) (hjn : j < n) : f j = false := by
  have h1 := h.bit j
  rw [decide_eq_true hjn, Bool.true_and] at h1
  rw [← h1]
  unfold wbit
  rw [hz (j / 64) (by omega)]
  simp

set_option maxHeartbeats 1000000 in
theorem compact_c (b g n : Nat) (f : Nat → Bool) (w : World) (h : BSet w b g n f) (hn : n ≤ 20000) :
    Calls Try.prog 57 #[.pointer (some ⟨b, 0, none⟩)] w fun e w' => CPost w w' b g n f e := by
  have hb := h
  obtain ⟨hne, cap, ws, hh, hr, hw⟩ := h
  have hm := hw.length
  have hle := hr.le
  have hc0 := hh.c0
  have hc1 := hh.c1
  have hout : ∀ q, ws.length ≤ q → ws.getD q 0 = 0 := fun q hq => getD_out ws 0 q hq
  obtain ⟨m, hmm⟩ : ∃ m, ws.length = m := ⟨_, rfl⟩
  rw [hmm] at hm hout hle hh hc1
  have HMM := Lib.hid hmm; clear hmm
  have hm1 : m ≤ 313 := by omega
  have HM := Lib.hid hm; clear hm hh
  have hw0 : IntKind.i64.wrap ((m : Int) - 1) = (m : Int) - 1 := by rw [IntKind.wrap_i64]; omega
  have HOut := Lib.hid hout; clear hout
  go_enter Try.func57, Try.ntmps57
  go_wp2
  go_loop [3] (fun v => ∃ k : Nat, k ≤ m ∧ v = .int .i64 ((k : Int) - 1) ∧ Hid (∀ q, k ≤ q → ws.getD q 0 = 0)) (fun v => (intOf v + 1).toNat)
  case atStart => exact ⟨m, Nat.le_refl _, by simp, HOut⟩
  case round =>
    obtain ⟨k, hk, rfl, hz⟩ := hrel
    have hs1 : IntKind.i64.wrap ((k : Int) - 1 + 1) = (k : Int) := by rw [IntKind.wrap_i64]; omega
    by_cases hk0 : k = 0
    · subst hk0
      have hbv := hb
      have hz' := hw.high hz.out
      by_cases hn0 : (n : Int) ≤ 0
      · obtain rfl : n = 0 := by omega
        go_wp2_with fail
        go_ret
        exact ⟨rfl, 0, g, hbv, Nat.le_refl _, fun j h1 h2 => by omega, .inl rfl, Kept.refl _ _⟩
      · by_cases hn63 : n ≤ 63
        · go_wp2_with fail
          refine (shrinkOut_c b g n 63 f w hbv hn63).mono ?_
          rintro e w1 ⟨rfl, rfl⟩
          go_wp2_with fail
          go_ret
          exact ⟨rfl, n, g, hbv, Nat.le_refl _, fun j h1 h2 => by omega, .inl rfl, Kept.refl _ _⟩
        · go_wp2_with fail
          refine (shrink_c b g n 63 f w hbv hn (by omega)).mono ?_
          rintro e w1 ⟨rfl, g', h1, h2, h3⟩
          go_wp2_with fail
          go_ret
          exact ⟨rfl, 64, g', h1, by omega, fun j h1 h2 => hz' j (by omega) h2, .inr h2, h3.mono (fun i hi => by simp at hi; left; simp [hi])⟩
    · have i1 : (0 : Int) ≤ (k : Int) - 1 := by omega
      have i2 : (k : Int) - 1 < (m : Int) := by omega
      have i3 : ((k : Int) - 1).toNat = k - 1 := by omega
      have i4 : (1 : Int) ≤ (k : Int) := by omega
      have i5 : (k : Int) ≤ (m : Int) := by omega
      have hs2 : IntKind.i64.wrap ((k : Int) - 1 - 1) = ((k - 1 : Nat) : Int) - 1 := by rw [IntKind.wrap_i64]; omega
      have hcl := hr.cell (k - 1) (by have := HMM.out; omega)
      obtain ⟨X, hX⟩ : ∃ X, ws.getD (k - 1) 0 = X := ⟨_, rfl⟩
      rw [hX] at hcl
      by_cases hX0 : X = 0
      · subst hX0
        have hz2 : Hid (∀ q, k - 1 ≤ q → ws.getD q 0 = 0) := by
          intro q hq
          by_cases e : q = k - 1
          · rw [e, hX]
          · exact hz.out q (by omega)
        clear hX
        go_wp2
        go_round
        case rel => exact ⟨k - 1, by omega, by simp [hs2], hz2⟩
        case measure => simp [intOf, hs2]; omega
      · have hXi : ¬ (X : Int) = 0 := by omega
        clear hX
        have hbv := hb
        have hz' := hw.high hz.out
        have hs4 : (k : Int) * 64 - 1 = ((64 * k - 1 : Nat) : Int) := by omega
        by_cases hnk : (n : Int) ≤ (k : Int) * 64
        · clear hs4
          go_wp2_with fail
          go_ret
          exact ⟨rfl, n, g, hbv, Nat.le_refl _, fun j h1 h2 => by omega, .inl rfl, Kept.refl _ _⟩
        · have hs6 : ¬ (k : Int) * 64 = 0 := by omega
          have HS4 := Lib.hid hs4; clear hs4
          go_wp2_with fail
          rw [HS4.out]
          refine (shrink_c b g n (64 * k - 1) f w hbv hn (by omega)).mono ?_
          rintro e w1 ⟨rfl, g', h1, h2, h3⟩
          go_wp2_with fail
          go_ret
          refine ⟨rfl, 64 * k, g', ?_, by omega, fun j h1 h2 => hz' j h1 h2, .inr h2, h3.mono (fun i hi => by simp at hi; left; simp [hi])⟩
          rw [show 64 * k = 64 * k - 1 + 1 by omega]; exact h1

end Go.Proofs.Ytiaghdnhapiioaa

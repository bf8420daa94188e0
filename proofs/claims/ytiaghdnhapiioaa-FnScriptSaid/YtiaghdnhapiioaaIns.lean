/-
  The contract of InsertAt; for sets of at most 20000 bits.
-/
import Derived.Test.YtiaghdnhapiioaaPart
namespace Go.Proofs.Ytiaghdnhapiioaa
set_option linter.unusedSimpArgs false
set_option linter.unusedVariables false
open Go.RowKit

/-- What a word is behind the place of the insertion. -/
def insW (ws : List Nat) (q : Nat) : Nat := up 1 (ws.getD q 0) ||| down 63 (ws.getD (q - 1) 0 &&& 9223372036854775808)
/-- What it is at the place. -/
def insE (x s : Nat) : Nat := (x &&& (2 ^ s - 1)) ||| up 1 (x &&& flipW (2 ^ s - 1))
theorem testBit_hi (t : Nat) : Nat.testBit 9223372036854775808 t = decide (t = 63) := by
  rw [show (9223372036854775808 : Nat) = 2 ^ 63 from rfl, Nat.testBit_two_pow]
  by_cases h : t = 63
  · subst h; rfl
  · rw [decide_eq_false h, decide_eq_false (Ne.symm h)]
theorem insW_lt (ws : List Nat) (hw : ∀ x ∈ ws, x < 2 ^ 64) (q : Nat) : insW ws q < 2 ^ 64 :=
  Nat.or_lt_two_pow (up_lt _ _) (down_lt _ _ (Nat.lt_of_le_of_lt Nat.and_le_left (getD_lt hw _)))
theorem insE_lt (x s : Nat) (hx : x < 2 ^ 64) : insE x s < 2 ^ 64 := Nat.or_lt_two_pow (Nat.lt_of_le_of_lt Nat.and_le_left hx) (up_lt _ _)
theorem testBit_insW (ws : List Nat) (q t : Nat) (ht : t < 64) : (insW ws q).testBit t = if t = 0 then (ws.getD (q - 1) 0).testBit 63 else (ws.getD q 0).testBit (t - 1) := by
  unfold insW
  rw [Nat.testBit_or, testBit_up, testBit_down, Nat.testBit_and, testBit_hi, decide_eq_true ht]
  by_cases h : t = 0
  · subst h; simp
  · rw [if_neg h, decide_eq_true (show 1 ≤ t by omega), decide_eq_false (show ¬ t + 63 = 63 by omega)]; simp
theorem testBit_insE (x s t : Nat) (ht : t < 64) : (insE x s).testBit t = if t < s then x.testBit t else (!(t == s) && x.testBit (t - 1)) := by
  unfold insE
  rw [Nat.testBit_or, testBit_up, Nat.testBit_and, Nat.testBit_and, two_pow_sub_testBit, decide_eq_true ht]
  by_cases h : t < s
  · rw [if_pos h, decide_eq_true h]
    by_cases h0 : t = 0
    · subst h0; simp
    · rw [testBit_flipW _ _ (by omega), two_pow_sub_testBit, decide_eq_true (show t - 1 < s by omega)]; simp
  · rw [if_neg h, decide_eq_false h]
    by_cases h1 : t = s
    · subst h1
      by_cases h0 : t = 0
      · subst h0; simp
      · rw [testBit_flipW _ _ (by omega), two_pow_sub_testBit, decide_eq_true (show t - 1 < t by omega)]; simp
    · rw [testBit_flipW _ _ (by omega), two_pow_sub_testBit, decide_eq_false (show ¬ t - 1 < s by omega), decide_eq_true (show 1 ≤ t by omega), beq_eq_false_iff_ne.2 h1]; simp

/-- The words when all is done. -/
theorem ins_ok {ws : List Nat} {n i e : Nat} {f : Nat → Bool} (h : WordsOk ws (n + 1) (fun j => decide (j < n) && f j)) (he : i / 64 = e) (hi : i < n) :
    WordsOk (part (fun q => decide (e ≤ q)) (fun q => if q = e then insE (ws.getD e 0) (i % 64) else insW ws q) ws) (n + 1) (fun j => if j < i then f j else !(j == i) && f (j - 1)) := by
  refine part_ok _ _ _ _ h.length h.lt (fun q _ _ => ?_) (fun q t hq ht => ?_)
  · by_cases c : q = e
    · rw [if_pos c]; exact insE_lt _ _ (h.word e)
    · rw [if_neg c]; exact insW_lt ws h.lt q
  · have hl := h.length
    rcases Nat.lt_trichotomy q e with c | c | c
    · rw [if_neg (by simp; omega), h.testAt q t ht, if_pos (by omega), decide_eq_true (show 64 * q + t < n by omega), Bool.true_and]
    · subst c
      rw [if_pos (by simp), if_pos rfl, testBit_insE _ _ _ ht]
      by_cases h1 : t < i % 64
      · rw [if_pos h1, h.testAt q t ht, if_pos (by omega), decide_eq_true (show 64 * q + t < n by omega), Bool.true_and]
      · rw [if_neg h1, if_neg (by omega)]
        by_cases h2 : t = i % 64
        · rw [beq_iff_eq.2 h2, beq_iff_eq.2 (show 64 * q + t = i by omega)]; simp
        · rw [beq_eq_false_iff_ne.2 h2, beq_eq_false_iff_ne.2 (show ¬ 64 * q + t = i by omega), h.testAt q (t - 1) (by omega), show 64 * q + (t - 1) = 64 * q + t - 1 by omega]
          by_cases h3 : 64 * q + t < n + 1
          · rw [decide_eq_true h3, decide_eq_true (show 64 * q + t - 1 < n + 1 by omega), decide_eq_true (show 64 * q + t - 1 < n by omega)]; simp
          · rw [decide_eq_false h3, decide_eq_false (show ¬ 64 * q + t - 1 < n by omega)]; simp
    · rw [if_pos (by simp; omega), if_neg (by omega), testBit_insW _ _ _ ht, if_neg (show ¬ 64 * q + t < i by omega), beq_eq_false_iff_ne.2 (show ¬ 64 * q + t = i by omega)]
      have e1 : ∀ k u, u < 64 → 64 * k + u = 64 * q + t - 1 → (ws.getD k 0).testBit u = (decide (64 * q + t < n + 1) && (!false && f (64 * q + t - 1))) := by
        intro k u hu e
        rw [h.testAt k u hu, e]
        by_cases h3 : 64 * q + t < n + 1
        · rw [decide_eq_true h3, decide_eq_true (show 64 * q + t - 1 < n + 1 by omega), decide_eq_true (show 64 * q + t - 1 < n by omega)]; simp
        · rw [decide_eq_false h3, decide_eq_false (show ¬ 64 * q + t - 1 < n by omega)]; simp
      by_cases h0 : t = 0
      · rw [if_pos h0]; exact e1 (q - 1) 63 (by omega) (by omega)
      · rw [if_neg h0]; exact e1 q (t - 1) (by omega) (by omega)

set_option maxHeartbeats 2000000 in
set_option maxRecDepth 100000 in
theorem insertAt_c (b g n i : Nat) (f : Nat → Bool) (w : World) (h : BSet w b g n f) (hn : n ≤ 20000) (hi : i < n) :
    Calls Try.prog 53 #[.pointer (some ⟨b, 0, none⟩), .int .u64 i] w fun e w' => e = .returned (.pointer (some ⟨b, 0, none⟩)) ∧ ∃ g', BSet w' b g' (n + 1) (fun j => if j < i then f j else !(j == i) && f (j - 1)) ∧ (g' = g ∨ w.heap.size ≤ g') ∧ Kept [b, g] w w' := by
  have hc0 : w.cell? ⟨b, 0, none⟩ = some (.int .u64 n) := by obtain ⟨_, cap, ws, hh, _, _⟩ := h; exact hh.c0
  have hin : ¬ (n : Int) ≤ (i : Int) := by omega
  obtain ⟨e, he⟩ : ∃ e, i / 64 = e := ⟨_, rfl⟩
  have he1 : (i : Int) / 64 = (e : Int) := by omega
  have HE := Lib.hid he; clear he
  have HE1 := Lib.hid he1; clear he1
  go_enter Try.func53, Try.ntmps53
  go_wp2_with fail
  rw [HE1.out]
  refine (extendSet_c b g n n f w h (Nat.le_refl _) hn).mono ?_
  rintro e1 w1 ⟨rfl, g', h1, hg', k1⟩
  obtain ⟨hne, cap, ws, hh, hr, hw⟩ := h1
  have hfin := ins_ok hw HE.out hi
  have hwl := hw.word
  have hwlt := hw.lt
  have hl := hw.length
  have hle := hr.le
  obtain ⟨m, hm⟩ : ∃ m, ws.length = m := ⟨_, rfl⟩
  rw [hm] at hl hle hh
  have HM := Lib.hid hm; clear hm
  have hm1 : 1 ≤ m ∧ m ≤ 313 := by omega
  have hem : e < m := by have := HE.out; omega
  have HG := Lib.hid hg'; clear hg'
  have hc1 := hh.c1
  have hw0 : IntKind.i64.wrap ((m : Int) - 1) = ((m - 1 : Nat) : Int) := by rw [IntKind.wrap_i64]; omega
  have hw00 : IntKind.u64.wrap ((m - 1 : Nat) : Int) = ((m - 1 : Nat) : Int) := by rw [IntKind.wrap_u64]; omega
  have hst : Kept [b, g'] w1 w1 ∧ Hdr w1 b (n + 1) g' m cap ∧ URow w1 g' (part (fun q => decide (m - 1 < q)) (insW ws) ws) cap := ⟨Kept.refl _ _, hh, by rw [part_none]; exact hr; intro q hq; have := HM.out; simp; omega⟩
  clear hw hl hc0
  go_wp2_with fail
  go_loopw [6] (fun v wr => ∃ k : Nat, e ≤ k ∧ k < m ∧ v = .int .u64 k ∧ Kept [b, g'] w1 wr ∧ Hdr wr b (n + 1) g' m cap ∧ URow wr g' (part (fun q => decide (k < q)) (insW ws) ws) cap) (fun v _ => (intOf v).toNat)
  case atStart => exact ⟨m - 1, by omega, by omega, by go_num, hst⟩
  case round =>
    obtain ⟨k, hk1, hk2, rfl, q1, q2, q3⟩ := hrel
    by_cases hke : e < k
    · have cX := q3.cell k (by rw [part_length, HM.out]; omega)
      have cY := q3.cell (k - 1) (by rw [part_length, HM.out]; omega)
      rw [part_getD _ _ _ _ (by rw [HM.out]; omega), if_neg (by simp)] at cX
      rw [part_getD _ _ _ _ (by rw [HM.out]; omega), if_neg (by simp <;> omega)] at cY
      have hf := q3.free k
      have c1 := q2.c1
      have hXlt := hwl k
      have hYlt := hwl (k - 1)
      have R1 := q3.set k (up 1 (ws.getD k 0))
      have R2 := R1.set k (insW ws k)
      rw [List.set_set, part_set (p' := fun q => decide (k - 1 < q)) (g' := insW ws) (hx := fun _ => ⟨by simp; omega, rfl⟩) (hp := fun q _ hq => ⟨by simp; omega, fun _ => rfl⟩)] at R2
      have cX1 := R1.cell k (by rw [List.length_set, part_length, HM.out]; omega)
      rw [getD_set _ _ _ _ (by rw [part_length, HM.out]; omega), if_pos rfl] at cX1
      have cY1 : (wr.setCell ⟨g', k, none⟩ (.int .u64 ((up 1 (ws.getD k 0) : Nat) : Int))).cell? ⟨g', k - 1, none⟩ = some (.int .u64 ((ws.getD (k - 1) 0 : Nat) : Int)) := (World.cell?_setCell_other _ _ _ _ (by simp <;> omega)).trans cY
      have cH1 := (q2.other (o := k) hne (.int .u64 ((up 1 (ws.getD k 0) : Nat) : Int))).c1
      have Q2 := (q2.other (o := k) hne (.int .u64 ((up 1 (ws.getD k 0) : Nat) : Int))).other (o := k) hne (.int .u64 ((insW ws k : Nat) : Int))
      have Q1 := ((q1.setCell (p := ⟨g', k, none⟩) (by left; simp) (.int .u64 ((up 1 (ws.getD k 0) : Nat) : Int))).drewN 1).setCell (p := ⟨g', k, none⟩) (by left; simp) (.int .u64 ((insW ws k : Nat) : Int))
      have hf1 := R1.free k
      have e1 : IntKind.u64.wrap ((ws.getD k 0 : Nat) * 2 : Int) = ((up 1 (ws.getD k 0) : Nat) : Int) := wrap_up 1 (ws.getD k 0)
      have i0 : (0 : Int) ≤ (k : Int) := by omega
      have i1 : (k : Int) < (m : Int) := by omega
      have j0 : (0 : Int) ≤ (k : Int) - 1 := by omega
      have j1 : (k : Int) - 1 < (m : Int) := by omega
      have j2 : ((k : Int) - 1).toNat = k - 1 := by omega
      have j3 : IntKind.u64.wrap ((k : Int) - 1) = (k : Int) - 1 := by rw [IntKind.wrap_u64]; omega
      generalize hX : ws.getD k 0 = X at *
      generalize hY : ws.getD (k - 1) 0 = Y at *
      have HX := Lib.hid hX; have HY := Lib.hid hY; clear hX hY
      have E1 := Lib.hid e1; clear e1
      have e2 : bits .or .u64 ((up 1 X : Nat) : Int) (bits .and .u64 (Y : Int) 9223372036854775808 / 9223372036854775808) = ((insW ws k : Nat) : Int) := by
        unfold insW
        rw [HX.out, HY.out, show bits .and .u64 (Y : Int) 9223372036854775808 = ((Y &&& 9223372036854775808 : Nat) : Int) from bits_and_nat Y 9223372036854775808 hYlt (by decide), show ((Y &&& 9223372036854775808 : Nat) : Int) / 9223372036854775808 = ((down 63 (Y &&& 9223372036854775808) : Nat) : Int) from int_down 63 _, bits_or_nat _ _ (up_lt _ _) (down_lt _ _ (Nat.lt_of_le_of_lt Nat.and_le_left hYlt))]
      have E2 := Lib.hid e2; clear e2
      go_wp2_with fail
      rw [E1.out]
      go_region
      all_goals
        go_wp2
        rw [E2.out]
        go_roundw
        case rel => exact ⟨k - 1, by omega, by omega, by go_num, Q1, Q2, R2⟩
        case measure => simp [intOf]; omega
    · have hke2 : k = e := by omega
      subst hke2
      have cX := q3.cell k (by rw [part_length, HM.out]; omega)
      rw [part_getD _ _ _ _ (by rw [HM.out]; omega), if_neg (by simp)] at cX
      have hf := q3.free k
      have c1 := q2.c1
      have i0 : (0 : Int) ≤ (k : Int) := by omega
      have i1 : (k : Int) < (m : Int) := by omega
      generalize hX : ws.getD k 0 = X at *
      have HX := Lib.hid hX; clear hX
      have hXlt : X < 2 ^ 64 := by rw [← HX.out]; exact hwl k
      obtain ⟨s, hs⟩ : ∃ s, i % 64 = s := ⟨_, rfl⟩
      have hs64 : s < 64 := by omega
      have hmk : 2 ^ s - 1 < 2 ^ 64 := Nat.lt_of_le_of_lt (Nat.sub_le _ _) (pow_lt s hs64)
      have e0 : IntKind.u64.wrap (IntKind.u64.wrap (2 ^ s) - 1) = ((2 ^ s - 1 : Nat) : Int) := by
        rw [wrap_pow s hs64]
        have : 1 ≤ 2 ^ s := Nat.one_le_two_pow
        rw [show ((2 ^ s : Nat) : Int) - 1 = ((2 ^ s - 1 : Nat) : Int) by omega, u64_wrap_nat _ hmk]
      have e1 : bits .and .u64 (X : Int) ((2 ^ s - 1 : Nat) : Int) = ((X &&& (2 ^ s - 1) : Nat) : Int) := bits_and_nat _ _ hXlt hmk
      have e2 : bits .xor .u64 IntKind.u64.max ((2 ^ s - 1 : Nat) : Int) = ((flipW (2 ^ s - 1) : Nat) : Int) := bits_flip _ hmk
      have e3 : bits .and .u64 (X : Int) ((flipW (2 ^ s - 1) : Nat) : Int) = ((X &&& flipW (2 ^ s - 1) : Nat) : Int) := bits_and_nat _ _ hXlt (flipW_lt _ hmk)
      have e4 : IntKind.u64.wrap (((X &&& flipW (2 ^ s - 1) : Nat) : Int) * 2) = ((up 1 (X &&& flipW (2 ^ s - 1)) : Nat) : Int) := wrap_up 1 _
      have e5 : bits .or .u64 ((X &&& (2 ^ s - 1) : Nat) : Int) ((up 1 (X &&& flipW (2 ^ s - 1)) : Nat) : Int) = ((insE X s : Nat) : Int) := bits_or_nat _ _ (Nat.lt_of_le_of_lt Nat.and_le_left hXlt) (up_lt _ _)
      have R1 := (q3.set k (X &&& (2 ^ s - 1))).set k (insE X s)
      rw [List.set_set, part_set (p' := fun q => decide (k ≤ q)) (g' := fun q => if q = k then insE X s else insW ws q) (hx := fun _ => ⟨by simp, if_pos rfl⟩) (hp := fun q _ hq => ⟨by simp; omega, fun _ => if_neg hq⟩)] at R1
      have Q2 := (q2.other (o := k) hne (.int .u64 ((X &&& (2 ^ s - 1) : Nat) : Int))).other (o := k) hne (.int .u64 ((insE X s : Nat) : Int))
      have Q1 := (q1.setCell (p := ⟨g', k, none⟩) (by left; simp) (.int .u64 ((X &&& (2 ^ s - 1) : Nat) : Int))).setCell (p := ⟨g', k, none⟩) (by left; simp) (.int .u64 ((insE X s : Nat) : Int))
      have HS := Lib.hid hs; clear hs
      have E0 := Lib.hid e0; have E1 := Lib.hid e1; have E2 := Lib.hid e2; have E3 := Lib.hid e3; have E4 := Lib.hid e4; have E5 := Lib.hid e5
      clear e0 e1 e2 e3 e4 e5
      clear hc1 hst hh
      go_wp2_with (go_at_call 63; refine (wordsIndex_c i (by omega) _).mono ?_; rintro e w' ⟨rfl, rfl⟩)
      rw [HS.out, E0.out, E1.out, E2.out, E3.out, E4.out, E5.out]
      go_ret
      refine ⟨rfl, g', ⟨hne, cap, _, ?_, R1, ?_⟩, HG.out, k1.trans Q1 (fun x hx => ?_)⟩
      · rw [part_length, HM.out]; exact Q2
      · rw [HS.out] at hfin; exact hfin
      · simp at hx
        rcases hx with rfl | rfl
        · left; simp
        · rcases HG.out with h | h
          · left; simp [h]
          · right; exact h

end Go.Proofs.Ytiaghdnhapiioaa

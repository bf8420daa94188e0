/-
  The contract of ShiftRight; for sets of at most 20000 bits.
-/
import Derived.BigRegion
import Derived.Test.YtiaghdnhapiioaaTop
import Derived.Test.YtiaghdnhapiioaaWordM
import Derived.Test.YtiaghdnhapiioaaCopyOp
import Derived.Test.YtiaghdnhapiioaaTwo
import Derived.Test.YtiaghdnhapiioaaOps
namespace Go.Proofs.Ytiaghdnhapiioaa
set_option linter.unusedSimpArgs false
set_option linter.unusedVariables false
open Go.RowKit


/-- The word at place q of a set that is moved down by 64 * p + s. -/
def shrW (ws : List Nat) (p s q : Nat) : Nat := down s (ws.getD (q + p) 0) ||| up (64 - s) (ws.getD (q + p + 1) 0)
theorem shrW_lt {ws : List Nat} (hw : ∀ x ∈ ws, x < 2 ^ 64) (p s q : Nat) : shrW ws p s q < 2 ^ 64 := Nat.or_lt_two_pow (down_lt _ _ (getD_lt hw _)) (up_lt _ _)
theorem shrW_bit {ws : List Nat} {n : Nat} {f : Nat → Bool} (h : WordsOk ws n f) (p s q t : Nat) (hs : s < 64) (ht : t < 64) : (shrW ws p s q).testBit t = (decide (64 * (q + p) + s + t < n) && f (64 * (q + p) + s + t)) := word_at h (q + p) s t hs ht
theorem zero_of_bits {x : Nat} (hx : x < 2 ^ 64) (h : ∀ t, t < 64 → x.testBit t = false) : x = 0 := Nat.eq_of_testBit_eq fun t => by
  rw [Nat.zero_testBit]
  by_cases ht : t < 64
  · exact h t ht
  · exact testBit_big hx (by omega)
theorem shrW_zero {ws : List Nat} {n T : Nat} {f : Nat → Bool} (h : WordsOk ws n f) (hT : ∀ j, T < j → j < n → f j = false) (p s q : Nat) (hs : s < 64) (hq : T < 64 * (q + p) + s) : shrW ws p s q = 0 :=
  zero_of_bits (shrW_lt h.lt p s q) fun t ht => by
    rw [shrW_bit h p s q t hs ht]
    by_cases hn : 64 * (q + p) + s + t < n
    · rw [hT _ (by omega) hn, Bool.and_false]
    · rw [decide_eq_false hn, Bool.false_and]
theorem word_zero {ws : List Nat} {n T : Nat} {f : Nat → Bool} (h : WordsOk ws n f) (hT : ∀ j, T < j → j < n → f j = false) (q : Nat) (hq : T < 64 * q) : ws.getD q 0 = 0 :=
  zero_of_bits (h.word q) fun t ht => by
    rw [h.testAt q t ht]
    by_cases hn : 64 * q + t < n
    · rw [hT _ (by omega) hn, Bool.and_false]
    · rw [decide_eq_false hn, Bool.false_and]
theorem shrW_last {ws : List Nat} {n T : Nat} {f : Nat → Bool} (h : WordsOk ws n f) (hT : ∀ j, T < j → j < n → f j = false) (p s q : Nat) (hq : T < 64 * (q + p + 1)) : shrW ws p s q = down s (ws.getD (q + p) 0) := by
  unfold shrW
  rw [word_zero h hT (q + p + 1) hq]
  have : up (64 - s) 0 = 0 := by unfold up; simp
  rw [this, Nat.or_zero]
theorem shr_ok {ws : List Nat} {n : Nat} {f : Nat → Bool} (h : WordsOk ws n f) (k p s m : Nat) (hm : ws.length = m) (hk : k = 64 * p + s) (hs : s < 64) : WordsOk (part (fun q => decide (q < m)) (shrW ws p s) ws) n (fun j => decide (j + k < n) && f (j + k)) := by
  refine part_ok _ _ _ _ h.length h.lt (fun q _ _ => shrW_lt h.lt p s q) (fun q t hq ht => ?_)
  rw [if_pos (by rw [hm] at hq; simpa using hq), shrW_bit h p s q t hs ht, show 64 * (q + p) + s + t = 64 * q + t + k by omega]
  by_cases hn : 64 * q + t + k < n
  · rw [decide_eq_true hn, decide_eq_true (show 64 * q + t < n by omega)]; rfl
  · rw [decide_eq_false hn]; simp
theorem shr_splice (ws : List Nat) (p r : Nat) (hw : ∀ x ∈ ws, x < 2 ^ 64) (h : p + r < ws.length) : splice ws 0 ((ws.drop p).take (r + 1)) = part (fun q => decide (q < r + 1)) (shrW ws p 0) ws := by
  have hl : ((ws.drop p).take (r + 1)).length = r + 1 := by rw [List.length_take, List.length_drop]; omega
  apply List.ext_getElem (by rw [part_length, length_splice _ _ _ (by omega)])
  intro q h1 h2
  rw [part_length] at h2
  have e := part_getD (fun q => decide (q < r + 1)) (shrW ws p 0) ws q h2
  rw [getD_in _ _ _ (by rw [part_length]; exact h2)] at e
  rw [e]
  unfold splice
  simp only [List.take_zero, List.nil_append, Nat.zero_add]
  by_cases hq : q < r + 1
  · rw [List.getElem_append_left (by omega), if_pos (by simpa using hq)]
    unfold shrW
    have u0 : ∀ y, up (64 - 0) y = 0 := fun y => by unfold up; exact Nat.mul_mod_left _ _
    have d0 : ∀ y, down 0 y = y := fun y => by unfold down; simp
    rw [u0, d0, Nat.or_zero, List.getElem_take, List.getElem_drop, getD_in _ _ _ (show q + p < ws.length by omega)]
    congr 1; omega
  · rw [List.getElem_append_right (by omega), if_neg (by simpa using hq), List.getElem_drop, getD_in _ _ _ h2]
    congr 1; omega

theorem topV_succ (T : Nat) : topV (T + 1) = #[.int .u64 (T : Nat), .bool true] := rfl
set_option maxHeartbeats 4000000 in
set_option maxRecDepth 100000 in
theorem shiftRightMain_c (b g n k T : Nat) (f : Nat → Bool) (w : World) (h : BSet w b g n f) (hn : n ≤ 20000) (hk : k ≤ 2500) (hk0 : k ≠ 0) (hq : lst f n = T + 1) (hkT : k ≤ T) :
    Calls Try.prog 48 #[.pointer (some ⟨b, 0, none⟩), .int .u64 k] w fun e w' => e = .returned (.tuple #[]) ∧ BSet w' b g n (fun j => decide (j + k < n) && f (j + k)) ∧ Kept [b, g] w w' := by
  have hn1 : n ≤ 20001 := by omega
  have hTn : T < n := by have := lst_le f n; omega
  have hTz : ∀ j, T < j → j < n → f j = false := fun j h1 h2 => lst_out f n j (by omega) h2
  have h0 := h
  obtain ⟨hne, cap, ws, hh, hr, hw⟩ := h0
  have hl := hw.length
  have hle := hr.le
  obtain ⟨m, hm⟩ : ∃ m, ws.length = m := ⟨_, rfl⟩
  obtain ⟨p, hp⟩ : ∃ p, k / 64 = p := ⟨_, rfl⟩
  obtain ⟨s, hs⟩ : ∃ s, k % 64 = s := ⟨_, rfl⟩
  obtain ⟨x, hx⟩ : ∃ x, T / 64 = x := ⟨_, rfl⟩
  obtain ⟨d, hd⟩ : ∃ d, T % 64 = d := ⟨_, rfl⟩
  obtain ⟨r, hr0⟩ : ∃ r, x = p + r := ⟨x - p, by omega⟩
  have hs64 : s < 64 := by omega
  have hd64 : d < 64 := by omega
  have hok := shr_ok hw k p s m hm (by omega) hs64
  have hz : ∀ q, r + 1 ≤ q → shrW ws p s q = 0 := fun q hq => shrW_zero hw hTz p s q hs64 (by omega)
  have hlast : shrW ws p s r = down s (ws.getD (r + p) 0) := shrW_last hw hTz p s r (by omega)
  have hpad : d < s → shrW ws p s r = 0 := fun hds => shrW_zero hw hTz p s r hs64 (by omega)
  rw [hm] at hh hl hle
  have hxm : p + r < m := by omega
  have hm4 : m ≤ 400 := by omega
  have hc1 := hh.c1
  have e0 : ¬ (k : Int) = 0 := by omega
  have e1 : ¬ (T : Int) < (k : Int) := by omega
  have e2 : (T : Int) % 64 = (d : Int) := by omega
  have e3 : (T : Int) / 64 = ((p + r : Nat) : Int) := by omega
  have e4 : (k : Int) / 64 = (p : Int) := by omega
  have e5 : (k : Int) % 64 = (s : Int) := by omega
  have e6 : ((p + r : Nat) : Int) - (p : Int) = (r : Int) := by omega
  have hsp := shr_splice ws p r hw.lt (by omega)
  have hwl := hw.word
  have hcl : ((ws.drop p).take (r + 1)).length = r + 1 := by rw [List.length_take, List.length_drop]; omega
  have hsrc : ∀ j, j < ((ws.drop p).take (r + 1)).length → w.cell? ⟨g, p + j, none⟩ = some (.int .u64 (((ws.drop p).take (r + 1)).getD j 0 : Nat)) := fun j hj => by
    rw [hcl] at hj
    rw [hr.cell (p + j) (by omega)]
    congr 3
    rw [getD_in _ _ _ (by omega), getD_in _ _ _ (by rw [hcl]; exact hj), List.getElem_take, List.getElem_drop]
  have HCL := Lib.hid hcl; have HSRC := Lib.hid hsrc; clear hcl hsrc
  have HM := Lib.hid hm; have HQ := Lib.hid hq; have HOK := Lib.hid hok; have HZ := Lib.hid hz; have HL := Lib.hid hlast; have HP := Lib.hid hpad; have HWL := Lib.hid hwl; have HSP := Lib.hid hsp; have HW := Lib.hid hw
  clear hm hp hs hx hd hr0 hq hok hz hlast hpad hl hwl hsp hw hTz
  by_cases hs0 : s = 0
  · subst hs0
    have f0 : IntKind.u64.wrap ((p : Int) + (r : Int) + 1) = (p : Int) + (r : Int) + 1 := by rw [IntKind.wrap_u64]; omega
    have f1 : (p : Int) ≤ (p : Int) + (r : Int) + 1 := by omega
    have f2 : (p : Int) + (r : Int) + 1 ≤ (cap : Int) := by omega
    have f3 : ¬ (p : Int) = (cap : Int) := by omega
    have f4 : ((p : Int) + (r : Int) + 1).toNat = p + r + 1 := by omega
    have f5 : ¬ cap = p := by omega
    have f6 : p + r + 1 - p = r + 1 := by omega
    go_enter Try.func48, Try.ntmps48
    go_wp2_with (go_at_call 64; refine (panicIfNull_c _ _).mono ?_; rintro e w' ⟨rfl, rfl⟩)
    refine (btop_c b g n f w h hn1).mono ?_
    rintro e wt ⟨rfl, hwt⟩
    subst wt
    rw [HQ.out, topV_succ]
    go_wp2_with fail
    have hS0 := hc1
    refine wp_region_held_drew (S := fun w' => w'.cell? ⟨b, 1, none⟩ = some (.slice (some ⟨g, 0, none⟩) m cap)) (by kernel_rfl) hc1 (fun hS => ?_)
    refine takeD 0 39 (v := ?_) rfl rfl (by kernel_rfl) (by kernel_rfl) (by kernel_rfl) (fun _ _ _ h => h) (Or.inl ⟨by kernel_rfl, ?_⟩) hS ?_
    rotate_left 1
    · (intro w' hw'; (try dsimp only at hw'); go_simp; try with_reducible rfl)
    simp only [List.setIfInBounds_toArray, List.set_cons_zero, List.set_cons_succ]
    refine takeD 1 40 (v := ?_) rfl rfl (by kernel_rfl) (by kernel_rfl) (by kernel_rfl) (fun _ _ _ h => h) (Or.inl ⟨by kernel_rfl, ?_⟩) hS ?_
    rotate_left 1
    · (intro w' hw'; (try dsimp only at hw'); go_simp; try with_reducible rfl)
    simp only [List.setIfInBounds_toArray, List.set_cons_zero, List.set_cons_succ]
    refine takeD 2 41 (v := ?_) rfl rfl (by kernel_rfl) (by kernel_rfl) (by kernel_rfl) (fun _ _ _ h => h) (Or.inl ⟨by kernel_rfl, ?_⟩) hS ?_
    rotate_left 1
    · (intro w' hw'; (try dsimp only at hw'); go_simp; try with_reducible rfl)
    simp only [List.setIfInBounds_toArray, List.set_cons_zero, List.set_cons_succ]
    refine takeD 3 42 (v := ?_) rfl rfl (by kernel_rfl) (by kernel_rfl) (by kernel_rfl) (fun _ _ _ h => h) (Or.inl ⟨by kernel_rfl, ?_⟩) hS ?_
    rotate_left 1
    · (intro w' hw'; (try dsimp only at hw'); go_simp; try with_reducible rfl)
    simp only [List.setIfInBounds_toArray, List.set_cons_zero, List.set_cons_succ]
    refine takeD 4 43 (v := ?_) rfl rfl (by kernel_rfl) (by kernel_rfl) (by kernel_rfl) (fun _ _ _ h => h) (Or.inl ⟨by kernel_rfl, ?_⟩) hS ?_
    rotate_left 1
    · (intro w' hw'; (try dsimp only at hw'); go_simp; try with_reducible rfl)
    simp only [List.setIfInBounds_toArray, List.set_cons_zero, List.set_cons_succ]
    refine takeD 5 44 (v := ?_) rfl rfl (by kernel_rfl) (by kernel_rfl) (by kernel_rfl) (fun _ _ _ h => h) (Or.inl ⟨by kernel_rfl, ?_⟩) hS ?_
    rotate_left 1
    · (intro w' hw'; (try dsimp only at hw'); go_simp; try with_reducible rfl)
    simp only [List.setIfInBounds_toArray, List.set_cons_zero, List.set_cons_succ]
    refine takeD 6 45 (v := ?_) rfl rfl (by kernel_rfl) (by kernel_rfl) (by kernel_rfl) (fun _ _ _ h => h) (Or.inl ⟨by kernel_rfl, ?_⟩) hS ?_
    rotate_left 1
    · (intro w' hw'; (try dsimp only at hw'); go_simp; try with_reducible rfl)
    simp only [List.setIfInBounds_toArray, List.set_cons_zero, List.set_cons_succ]
    refine takeD 7 46 (v := ?_) rfl rfl (by kernel_rfl) (by kernel_rfl) (by kernel_rfl) (fun _ _ _ h => h) (Or.inl ⟨by kernel_rfl, ?_⟩) hS ?_
    rotate_left 1
    · (intro w' hw'; (try dsimp only at hw'); go_simp; try with_reducible rfl)
    simp only [List.setIfInBounds_toArray, List.set_cons_zero, List.set_cons_succ]
    refine takeD 8 47 (v := ?_) rfl rfl (by kernel_rfl) (by kernel_rfl) (by kernel_rfl) (fun _ _ _ h => h) (Or.inl ⟨by kernel_rfl, ?_⟩) hS ?_
    rotate_left 1
    · (intro w' hw'; (try dsimp only at hw'); go_simp; try with_reducible rfl)
    simp only [List.setIfInBounds_toArray, List.set_cons_zero, List.set_cons_succ]
    refine takeD 9 48 (v := ?_) rfl rfl (by kernel_rfl) (by kernel_rfl) (by kernel_rfl) (fun _ _ _ h => h) (Or.inl ⟨by kernel_rfl, ?_⟩) hS ?_
    rotate_left 1
    · (intro w' hw'; (try dsimp only at hw'); go_simp; try with_reducible rfl)
    simp only [List.setIfInBounds_toArray, List.set_cons_zero, List.set_cons_succ]
    refine takeD 10 49 (v := ?_) rfl rfl (by kernel_rfl) (by kernel_rfl) (by kernel_rfl) (fun _ _ _ h => h) (Or.inl ⟨by kernel_rfl, ?_⟩) hS ?_
    rotate_left 1
    · (intro w' hw'; (try dsimp only at hw'); go_simp; try with_reducible rfl)
    simp only [List.setIfInBounds_toArray, List.set_cons_zero, List.set_cons_succ]
    refine takeD 11 50 (v := ?_) rfl rfl (by kernel_rfl) (by kernel_rfl) (by kernel_rfl) (fun _ _ _ h => h) (Or.inl ⟨by kernel_rfl, ?_⟩) hS ?_
    rotate_left 1
    · (intro w' hw'; (try dsimp only at hw'); go_simp; try with_reducible rfl)
    simp only [List.setIfInBounds_toArray, List.set_cons_zero, List.set_cons_succ]
    refine wpAnyH_ready (rs := [12]) (by kernel_rfl) (by simp) ?_
    refine AllReadyH.cons rfl (fun K hK => ?_) AllReadyH.nil
    refine wanted_plain rfl ?_
    refine oper_copyU (.tmp 42) (.tmp 50) 69 rfl Try.underlying69 Try.sizeU g 0 m cap g p (r + 1) (cap - p) rfl rfl ws cap hr ((ws.drop p).take (r + 1)) (by rw [HCL.out]; exact (Nat.min_eq_left (by omega)).symm) HSRC.out (by rw [HCL.out, HM.out]; omega) ?_
    intro w2 r2 k2 hsz
    have k2g : Kept [g] w w2 := ((Kept.refl [g] w).drew).trans k2 (fun i hi => .inl hi)
    refine hK.out _ _ ?_ (fun hS2 => ?_)
    · exact k2g.cell (by simpa using hne) hc1
    clear hK K
    (try simp only [Act.put, List.setIfInBounds_toArray, List.set_cons_zero, List.set_cons_succ])
    refine wpAnyH_done (by kernel_rfl) ?_ _
    rw [HSP.out] at r2
    have kV : Kept [b, g] w w2 := k2g.mono (fun i hi => by simp at hi; left; simp [hi])
    have hV := hh.kept k2g (by simpa using hne)
    have rV := r2
    clear hS hS2 k2g k2 hsz hh hr hc1 hS0 h
    go_wp2_with fail
    go_loopw [11] (fun v wr => ∃ i : Nat, r + 1 ≤ i ∧ i ≤ m ∧ v = .int .i64 i ∧ Kept [b, g] w wr ∧ Hdr wr b n g m cap ∧ URow wr g (part (fun q => decide (q < i)) (shrW ws p 0) ws) cap) (fun v _ => m - (intOf v).toNat)
    case atStart => exact ⟨r + 1, Nat.le_refl _, by omega, by go_num, kV, hV, rV⟩
    case round =>
      obtain ⟨i, hi1, hi2, rfl, q1, q2, q3⟩ := hrel
      by_cases him : i < m
      · have c1 := q2.c1
        have hf := q3.free i
        obtain ⟨u, hu⟩ := q3.any i (by omega)
        have R := q3.set i 0
        rw [part_set (p' := fun q => decide (q < i + 1)) (g' := shrW ws p 0) (hx := fun _ => ⟨by simp, HZ.out i hi1⟩) (hp := fun q _ hq => ⟨by simp; omega, fun _ => rfl⟩)] at R
        have Q2 := q2.other (o := i) hne (.int .u64 ((0 : Nat) : Int))
        have Q1 := q1.setCell (p := ⟨g, i, none⟩) (by left; simp) (.int .u64 ((0 : Nat) : Int))
        have i0 : (0 : Int) ≤ (i : Int) := by omega
        have i1 : (i : Int) < (m : Int) := by omega
        clear q3 q2 q1
        go_wp2_with fail
        go_roundw
        case rel => exact ⟨i + 1, by omega, by omega, by go_num, Q1, Q2, R⟩
        case measure => simp [intOf] <;> omega
      · obtain rfl : i = m := by omega
        have c1 := q2.c1
        go_wp2_with fail
        go_end0
        exact ⟨rfl, ⟨hne, cap, _, by rw [part_length, HM.out]; exact q2, q3, HOK.out⟩, q1⟩
  · have hs1 : ¬ (s : Int) = 0 := by omega
    go_enter Try.func48, Try.ntmps48
    go_wp2_with (go_at_call 64; refine (panicIfNull_c _ _).mono ?_; rintro e w' ⟨rfl, rfl⟩)
    refine (btop_c b g n f w h hn1).mono ?_
    rintro e wt ⟨rfl, hwt⟩
    subst wt
    rw [HQ.out, topV_succ]
    go_wp2_with fail
    rw [e2, e5]
    go_loopw [10] (fun v wr => ∃ i : Nat, i ≤ r + 1 ∧ v = .int .i64 i ∧ Kept [b, g] w wr ∧ Hdr wr b n g m cap ∧ URow wr g (part (fun q => decide (q < i)) (shrW ws p s) ws) cap) (fun v _ => r + 1 - (intOf v).toNat)
    case atStart => exact ⟨0, Nat.zero_le _, rfl, Kept.refl _ _, hh, by rw [part_none _ _ _ (fun q _ => by simp)]; exact hr⟩
    case round =>
      obtain ⟨i, hi, rfl, q1, q2, q3⟩ := hrel
      clear hh hr hc1 h
      by_cases hir : i < r + 1
      · have c1 := q2.c1
        have cX := q3.cell (i + p) (by rw [part_length, HM.out]; omega)
        rw [part_getD _ _ _ _ (by rw [HM.out]; omega), if_neg (fun h => by have := of_decide_eq_true h; omega)] at cX
        have hX := HWL.out (i + p)
        have hf := q3.free i
        obtain ⟨u, hu⟩ := q3.any i (by omega)
        have R := q3.set i (shrW ws p s i)
        rw [part_set (p' := fun q => decide (q < i + 1)) (g' := shrW ws p s) (hx := fun _ => ⟨by simp, rfl⟩) (hp := fun q _ hq => ⟨by simp; omega, fun _ => rfl⟩)] at R
        have Q1 := q1.drew.setCell (p := ⟨g, i, none⟩) (by left; simp) (.int .u64 ((shrW ws p s i : Nat) : Int))
        have Q2 := q2.other (o := i) hne (.int .u64 ((shrW ws p s i : Nat) : Int))
        have b0 : (0 : Int) ≤ (i : Int) := by omega
        have b1 : (i : Int) < (m : Int) := by omega
        have b2 : (0 : Int) ≤ (i : Int) + (p : Int) := by omega
        have b3 : (i : Int) + (p : Int) < (m : Int) := by omega
        have b4 : ((i : Int) + (p : Int)).toNat = i + p := by omega
        have b5 : IntKind.i64.wrap ((i : Int) + (p : Int)) = (i : Int) + (p : Int) := by rw [IntKind.wrap_i64]; omega
        have b6 : IntKind.u64.wrap (64 - (s : Int)) = 64 - (s : Int) := by rw [IntKind.wrap_u64]; omega
        have b7 : (64 - (s : Int)).toNat = 64 - s := by omega
        by_cases hie : i < r
        · have cY := q3.cell (i + p + 1) (by rw [part_length, HM.out]; omega)
          rw [part_getD _ _ _ _ (by rw [HM.out]; omega), if_neg (fun h => by have := of_decide_eq_true h; omega)] at cY
          have hY := HWL.out (i + p + 1)
          have hop : bits .or .u64 (((ws.getD (i + p) 0 : Nat) : Int) / 2 ^ s) (IntKind.u64.wrap (((ws.getD (i + p + 1) 0 : Nat) : Int) * 2 ^ (64 - s))) = ((shrW ws p s i : Nat) : Int) := by
            rw [int_down, wrap_up, bits_or_nat _ _ (down_lt _ _ hX) (up_lt _ _)]; rfl
          have d2 : (0 : Int) ≤ (i : Int) + (p : Int) + 1 := by omega
          have d3 : (i : Int) + (p : Int) + 1 < (m : Int) := by omega
          have d4 : ((i : Int) + (p : Int) + 1).toNat = i + p + 1 := by omega
          have d5 : IntKind.i64.wrap ((i : Int) + (p : Int) + 1) = (i : Int) + (p : Int) + 1 := by rw [IntKind.wrap_i64]; omega
          generalize ws.getD (i + p) 0 = X at *
          generalize ws.getD (i + p + 1) 0 = Y at *
          generalize shrW ws p s i = Z at *
          have HOP := Lib.hid hop; clear hop q1 q2 q3
          go_wp2_with fail
          go_region
          all_goals
            go_wp2
            rw [HOP.out]
            go_roundw
            case rel => exact ⟨i + 1, by omega, by go_num, Q1, Q2, R⟩
            case measure => simp [intOf] <;> omega
        · obtain rfl : i = r := by omega
          have hop : ((ws.getD (i + p) 0 : Nat) : Int) / 2 ^ s = ((shrW ws p s i : Nat) : Int) := by rw [int_down, HL.out]
          generalize ws.getD (i + p) 0 = X at *
          generalize shrW ws p s i = Z at *
          have HOP := Lib.hid hop; clear hop q1 q2 q3
          go_wp2_with fail
          go_region
          all_goals
            go_wp2
            rw [HOP.out]
            go_roundw
            case rel => exact ⟨i + 1, by omega, by go_num, Q1, Q2, R⟩
            case measure => simp [intOf] <;> omega
      · obtain rfl : i = r + 1 := by omega
        have c1 := q2.c1
        by_cases hds : d < s
        · have hds' : (d : Int) < (s : Int) := by omega
          have hf := q3.free r
          obtain ⟨u, hu⟩ := q3.any r (by omega)
          have R := q3.set r 0
          rw [part_set (p' := fun q => decide (q < r + 1)) (g' := shrW ws p s) (hx := fun _ => ⟨by simp, HP.out hds⟩) (hp := fun q _ hq => ⟨rfl, fun _ => rfl⟩)] at R
          have kV := q1.setCell (p := ⟨g, r, none⟩) (by left; simp) (.int .u64 ((0 : Nat) : Int))
          have hV := q2.other (o := r) hne (.int .u64 ((0 : Nat) : Int))
          have rV := R
          have b0 : (0 : Int) ≤ (r : Int) := by omega
          have b1 : (r : Int) < (m : Int) := by omega
          clear q1 q2 q3 R
          go_wp2_with fail
          go_loopw [11] (fun v wr => ∃ i : Nat, r + 1 ≤ i ∧ i ≤ m ∧ v = .int .i64 i ∧ Kept [b, g] w wr ∧ Hdr wr b n g m cap ∧ URow wr g (part (fun q => decide (q < i)) (shrW ws p s) ws) cap) (fun v _ => m - (intOf v).toNat)
          case atStart => exact ⟨r + 1, Nat.le_refl _, by omega, by go_num, kV, hV, rV⟩
          case round =>
            obtain ⟨i, hi1, hi2, rfl, q1, q2, q3⟩ := hrel
            by_cases him : i < m
            · have c1 := q2.c1
              have hf := q3.free i
              obtain ⟨u, hu⟩ := q3.any i (by omega)
              have R := q3.set i 0
              rw [part_set (p' := fun q => decide (q < i + 1)) (g' := shrW ws p s) (hx := fun _ => ⟨by simp, HZ.out i hi1⟩) (hp := fun q _ hq => ⟨by simp; omega, fun _ => rfl⟩)] at R
              have Q2 := q2.other (o := i) hne (.int .u64 ((0 : Nat) : Int))
              have Q1 := q1.setCell (p := ⟨g, i, none⟩) (by left; simp) (.int .u64 ((0 : Nat) : Int))
              have i0 : (0 : Int) ≤ (i : Int) := by omega
              have i1 : (i : Int) < (m : Int) := by omega
              clear q3 q2 q1
              go_wp2_with fail
              go_roundw
              case rel => exact ⟨i + 1, by omega, by omega, by go_num, Q1, Q2, R⟩
              case measure => simp [intOf] <;> omega
            · obtain rfl : i = m := by omega
              have c1 := q2.c1
              go_wp2_with fail
              go_end0
              exact ⟨rfl, ⟨hne, cap, _, by rw [part_length, HM.out]; exact q2, q3, HOK.out⟩, q1⟩
        · have hds' : ¬ (d : Int) < (s : Int) := by omega
          have kV := q1; have hV := q2; have rV := q3
          clear q1 q2 q3
          go_wp2_with fail
          go_loopw [11] (fun v wr => ∃ i : Nat, r + 1 ≤ i ∧ i ≤ m ∧ v = .int .i64 i ∧ Kept [b, g] w wr ∧ Hdr wr b n g m cap ∧ URow wr g (part (fun q => decide (q < i)) (shrW ws p s) ws) cap) (fun v _ => m - (intOf v).toNat)
          case atStart => exact ⟨r + 1, Nat.le_refl _, by omega, by go_num, kV, hV, rV⟩
          case round =>
            obtain ⟨i, hi1, hi2, rfl, q1, q2, q3⟩ := hrel
            by_cases him : i < m
            · have c1 := q2.c1
              have hf := q3.free i
              obtain ⟨u, hu⟩ := q3.any i (by omega)
              have R := q3.set i 0
              rw [part_set (p' := fun q => decide (q < i + 1)) (g' := shrW ws p s) (hx := fun _ => ⟨by simp, HZ.out i hi1⟩) (hp := fun q _ hq => ⟨by simp; omega, fun _ => rfl⟩)] at R
              have Q2 := q2.other (o := i) hne (.int .u64 ((0 : Nat) : Int))
              have Q1 := q1.setCell (p := ⟨g, i, none⟩) (by left; simp) (.int .u64 ((0 : Nat) : Int))
              have i0 : (0 : Int) ≤ (i : Int) := by omega
              have i1 : (i : Int) < (m : Int) := by omega
              clear q3 q2 q1
              go_wp2_with fail
              go_roundw
              case rel => exact ⟨i + 1, by omega, by omega, by go_num, Q1, Q2, R⟩
              case measure => simp [intOf] <;> omega
            · obtain rfl : i = m := by omega
              have c1 := q2.c1
              go_wp2_with fail
              go_end0
              exact ⟨rfl, ⟨hne, cap, _, by rw [part_length, HM.out]; exact q2, q3, HOK.out⟩, q1⟩

end Go.Proofs.Ytiaghdnhapiioaa

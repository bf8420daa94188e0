/-
  The contract of DeleteAt; for sets of at most 20000 bits.
-/
import Derived.Test.YtiaghdnhapiioaaPart
import Derived.Test.YtiaghdnhapiioaaAlike
namespace Go.Proofs.Ytiaghdnhapiioaa
set_option linter.unusedSimpArgs false
set_option linter.unusedVariables false
open Go.RowKit

/-- What the word at the place is, but for its top bit. -/
def delE (x s : Nat) : Nat := (x &&& flipW (flipW (2 ^ s - 1))) ||| (down 1 (x &&& flipW (2 ^ s - 1)) &&& flipW (2 ^ s - 1))
def delP (ws : List Nat) (e s q : Nat) : Nat := if q = e then delE (ws.getD e 0) s else down 1 (ws.getD q 0)
def delW (ws : List Nat) (e s q : Nat) : Nat := delP ws e s q ||| up 63 (ws.getD (q + 1) 0 &&& 1)
theorem and_lt_left (a b : Nat) (h : a < 2 ^ 64) : a &&& b < 2 ^ 64 := Nat.lt_of_le_of_lt Nat.and_le_left h
theorem delE_lt (x s : Nat) (hx : x < 2 ^ 64) : delE x s < 2 ^ 64 := Nat.or_lt_two_pow (and_lt_left _ _ hx) (and_lt_left _ _ (down_lt _ _ (and_lt_left _ _ hx)))
theorem delP_lt {ws : List Nat} (hw : ∀ x ∈ ws, x < 2 ^ 64) (e s q : Nat) : delP ws e s q < 2 ^ 64 := by
  unfold delP
  split
  · exact delE_lt _ _ (getD_lt hw _)
  · exact down_lt _ _ (getD_lt hw _)
theorem delW_lt {ws : List Nat} (hw : ∀ x ∈ ws, x < 2 ^ 64) (e s q : Nat) : delW ws e s q < 2 ^ 64 := Nat.or_lt_two_pow (delP_lt hw _ _ _) (up_lt _ _)
theorem testBit_delE (x s t : Nat) (hx : x < 2 ^ 64) (ht : t < 64) (hs : s < 64) : (delE x s).testBit t = if t < s then x.testBit t else x.testBit (t + 1) := by
  unfold delE
  rw [Nat.testBit_or, Nat.testBit_and, Nat.testBit_and, testBit_down, Nat.testBit_and, testBit_flipW _ _ ht, testBit_flipW _ _ ht, two_pow_sub_testBit]
  by_cases h : t < s
  · rw [if_pos h, decide_eq_true h]; simp
  · rw [if_neg h, decide_eq_false h]
    by_cases h1 : t + 1 < 64
    · rw [testBit_flipW _ _ h1, two_pow_sub_testBit, decide_eq_false (show ¬ t + 1 < s by omega)]; simp
    · rw [testBit_big hx (show 64 ≤ t + 1 by omega)]; simp
theorem testBit_delP {ws : List Nat} (hw : ∀ x ∈ ws, x < 2 ^ 64) (e s q t : Nat) (ht : t < 64) (hs : s < 64) : (delP ws e s q).testBit t = if q = e ∧ t < s then (ws.getD q 0).testBit t else (ws.getD q 0).testBit (t + 1) := by
  unfold delP
  by_cases h : q = e
  · subst h
    rw [if_pos rfl, testBit_delE _ _ _ (getD_lt hw _) ht hs]
    by_cases h1 : t < s
    · rw [if_pos h1, if_pos ⟨rfl, h1⟩]
    · rw [if_neg h1, if_neg (fun h => h1 h.2)]
  · rw [if_neg h, if_neg (fun h1 => h h1.1), testBit_down]
theorem testBit_one (t : Nat) : Nat.testBit 1 t = decide (t = 0) := by
  have := Nat.testBit_two_pow (n := 0) (m := t)
  rw [show (2 : Nat) ^ 0 = 1 from rfl] at this
  rw [this]
  by_cases h : t = 0
  · subst h; rfl
  · rw [decide_eq_false h, decide_eq_false (Ne.symm h)]
theorem testBit_delW {ws : List Nat} (hw : ∀ x ∈ ws, x < 2 ^ 64) (e s q t : Nat) (ht : t < 64) (hs : s < 64) : (delW ws e s q).testBit t = if q = e ∧ t < s then (ws.getD q 0).testBit t else if t = 63 then (ws.getD (q + 1) 0).testBit 0 else (ws.getD q 0).testBit (t + 1) := by
  unfold delW
  rw [Nat.testBit_or, testBit_delP hw _ _ _ _ ht hs, testBit_up, Nat.testBit_and, testBit_one, decide_eq_true ht]
  by_cases h1 : q = e ∧ t < s
  · rw [if_pos h1, if_pos h1, decide_eq_false (show ¬ 63 ≤ t by omega)]; simp
  · rw [if_neg h1, if_neg h1]
    by_cases h2 : t = 63
    · subst h2; rw [if_pos rfl, testBit_big (getD_lt hw q) (by omega)]; simp
    · rw [if_neg h2, decide_eq_false (show ¬ 63 ≤ t by omega)]; simp
/-- The row while the bits move: the words before k have their top bit, but for the last one of them. -/
def delL (ws : List Nat) (e s k : Nat) : List Nat := part (fun q => decide (e ≤ q) && decide (q < k)) (fun q => if q + 1 < k then delW ws e s q else delP ws e s q) ws
theorem delL_length (ws : List Nat) (e s k : Nat) : (delL ws e s k).length = ws.length := part_length _ _ _
theorem delL_start (ws : List Nat) (e s x : Nat) : (ws.set e x).set e (delE (ws.getD e 0) s) = delL ws e s (e + 1) := by
  rw [List.set_set, ← part_none (fun _ => false) (fun _ => 0) ws (fun _ _ => rfl)]
  unfold delL
  rw [part_none (fun _ => false) (fun _ => 0) ws (fun _ _ => rfl), ← part_none (fun _ => false) (fun _ => 0) ws (fun _ _ => rfl)]
  rw [part_set (p' := fun q => decide (e ≤ q) && decide (q < e + 1)) (g' := fun q => if q + 1 < e + 1 then delW ws e s q else delP ws e s q)]
  · rw [part_none (fun _ => false) (fun _ => 0) ws (fun _ _ => rfl)]
  · intro _
    rw [part_none (fun _ => false) (fun _ => 0) ws (fun _ _ => rfl)]
    refine ⟨by simp, ?_⟩
    rw [if_neg (by omega)]; unfold delP; rw [if_pos rfl]
  · intro q _ hq
    refine ⟨?_, fun h => by cases h⟩
    by_cases h : e ≤ q
    · simp [h]; omega
    · simp [h]
theorem delL_step (ws : List Nat) (e s k : Nat) (hk : e < k) : ((delL ws e s k).set (k - 1) (delW ws e s (k - 1))).set k (down 1 (ws.getD k 0)) = delL ws e s (k + 1) := by
  unfold delL
  rw [part_set (p' := fun q => decide (e ≤ q) && decide (q < k)) (g' := fun q => delW ws e s q), part_set (p' := fun q => decide (e ≤ q) && decide (q < k + 1)) (g' := fun q => if q + 1 < k + 1 then delW ws e s q else delP ws e s q)]
  · intro _
    refine ⟨by simp; omega, ?_⟩
    rw [if_neg (by omega)]; unfold delP; rw [if_neg (by omega)]
  · intro q _ hq
    refine ⟨?_, fun h => ?_⟩
    · by_cases h : q < k
      · rw [decide_eq_true h, decide_eq_true (show q < k + 1 by omega)]
      · rw [decide_eq_false h, decide_eq_false (show ¬ q < k + 1 by omega)]
    · simp at h; rw [if_pos (by omega)]
  · intro _
    exact ⟨by simp; omega, rfl⟩
  · intro q _ hq
    refine ⟨rfl, fun h => ?_⟩
    simp at h; rw [if_pos (by omega)]
theorem delL_bit {ws : List Nat} {n i e s m : Nat} {f : Nat → Bool} (h : WordsOk ws n f) (he : i / 64 = e) (hs : i % 64 = s) (hm : ws.length = m) (hi : i < n) (q t : Nat) (hq : q < m) (ht : t < 64) :
    ((delL ws e s m).getD q 0).testBit t = (decide (64 * q + t < n - 1) && (if 64 * q + t < i then f (64 * q + t) else f (64 * q + t + 1))) := by
  have hl := h.length
  unfold delL
  rw [part_getD _ _ _ _ (by omega)]
  by_cases c : e ≤ q
  · rw [if_pos (by simp; omega)]
    have e1 : (if q + 1 < m then delW ws e s q else delP ws e s q) = delW ws e s q := by
      by_cases c1 : q + 1 < m
      · rw [if_pos c1]
      · rw [if_neg c1]; unfold delW; rw [getD_out ws 0 (q + 1) (by omega)]; simp [up]
    rw [e1, testBit_delW h.lt _ _ _ _ ht (by omega)]
    have nx : ∀ k u, u < 64 → 64 * k + u = 64 * q + t + 1 → (ws.getD k 0).testBit u = (decide (64 * q + t < n - 1) && f (64 * q + t + 1)) := by
      intro k u hu e2
      rw [h.testAt k u hu, e2]
      by_cases h3 : 64 * q + t < n - 1
      · rw [decide_eq_true h3, decide_eq_true (show 64 * q + t + 1 < n by omega)]
      · rw [decide_eq_false h3, decide_eq_false (show ¬ 64 * q + t + 1 < n by omega), Bool.false_and]
    by_cases c1 : q = e ∧ t < s
    · rw [if_pos c1, h.testAt q t ht, if_pos (by omega), decide_eq_true (show 64 * q + t < n by omega), decide_eq_true (show 64 * q + t < n - 1 by omega)]
    · rw [if_neg c1, if_neg (show ¬ 64 * q + t < i by omega)]
      by_cases c2 : t = 63
      · rw [if_pos c2]; exact nx (q + 1) 0 (by omega) (by omega)
      · rw [if_neg c2]; exact nx q (t + 1) (by omega) (by omega)
  · rw [if_neg (by simp; omega), h.testAt q t ht, if_pos (by omega), decide_eq_true (show 64 * q + t < n by omega), decide_eq_true (show 64 * q + t < n - 1 by omega)]
theorem delL_lt {ws : List Nat} (hw : ∀ x ∈ ws, x < 2 ^ 64) (e s k : Nat) : ∀ x ∈ delL ws e s k, x < 2 ^ 64 :=
  part_lt _ _ hw (fun q _ _ => by split; exact delW_lt hw _ _ _; exact delP_lt hw _ _ _)
theorem delL_ok {ws : List Nat} {n i e s m : Nat} {f : Nat → Bool} (h : WordsOk ws n f) (he : i / 64 = e) (hs : i % 64 = s) (hm : ws.length = m) (hi : i < n) (c : Nat) (hc : c = (n - 1 + 63) / 64) :
    WordsOk ((delL ws e s m).take c) (n - 1) (fun j => if j < i then f j else f (j + 1)) := by
  have hl := h.length
  have hlen : ((delL ws e s m).take c).length = c := by rw [List.length_take, delL_length]; omega
  have hg : ∀ k, k < c → ((delL ws e s m).take c).getD k 0 = (delL ws e s m).getD k 0 := fun k hk => by
    rw [List.getD_eq_getElem?_getD, List.getD_eq_getElem?_getD, List.getElem?_take_of_lt hk]
  refine WordsOk.mk' (by rw [hlen]; exact hc) (fun k => getD_lt (fun x hx => delL_lt h.lt e s m x (List.mem_of_mem_take hx)) k) (fun k t ht hk => ?_)
  rw [hlen] at hk
  rw [hg k hk]
  exact delL_bit h he hs hm hi k t (by omega) ht

theorem wordCountN_c (b n : Nat) (w : World) (hc : w.cell? ⟨b, 0, none⟩ = some (.int .u64 n)) (hn : n ≤ 20001) :
    Calls Try.prog 71 #[.pointer (some ⟨b, 0, none⟩)] w fun e w' => e = .returned (.int .i64 ((n + 63) / 64 : Nat)) ∧ w = w' := by
  go_enter Try.func71, Try.ntmps71
  go_wp2
  go_ret
  exact ⟨by simp, rfl⟩

set_option maxHeartbeats 2000000 in
set_option maxRecDepth 100000 in
theorem deleteAt_c (b g n i : Nat) (f : Nat → Bool) (w : World) (h : BSet w b g n f) (hn : n ≤ 20001) (hi : i < n) :
    Calls Try.prog 54 #[.pointer (some ⟨b, 0, none⟩), .int .u64 i] w fun e w' => e = .returned (.pointer (some ⟨b, 0, none⟩)) ∧ BSet w' b g (n - 1) (fun j => if j < i then f j else f (j + 1)) ∧ Kept [b, g] w w' := by
  obtain ⟨hne, cap, ws, hh, hr, hw⟩ := h
  obtain ⟨e, he⟩ : ∃ e, i / 64 = e := ⟨_, rfl⟩
  obtain ⟨s, hs⟩ : ∃ s, i % 64 = s := ⟨_, rfl⟩
  have hs64 : s < 64 := by omega
  have hl := hw.length
  have hle := hr.le
  obtain ⟨m, hm⟩ : ∃ m, ws.length = m := ⟨_, rfl⟩
  have hfin := delL_ok hw he hs hm hi
  rw [hm] at hl hle hh
  have hm1 : m ≤ 313 := by omega
  have hem : e < m := by omega
  have hm2 : (n - 1 + 63) / 64 ≤ m := by omega
  have hc0 := hh.c0
  have hc1 := hh.c1
  have hX := hr.cell e (by omega)
  have hf := hr.free e
  have hwl := hw.word
  have he1 : (i : Int) / 64 = (e : Int) := by omega
  have hin : ¬ (n : Int) ≤ (i : Int) := by omega
  have hn0 : (1 : Int) ≤ (n : Int) := by omega
  have hXlt := hwl e
  have hmk : 2 ^ s - 1 < 2 ^ 64 := Nat.lt_of_le_of_lt (Nat.sub_le _ _) (pow_lt s hs64)
  have e0 : IntKind.u64.wrap (IntKind.u64.wrap (2 ^ s) - 1) = ((2 ^ s - 1 : Nat) : Int) := by
    rw [wrap_pow s hs64]
    have : 1 ≤ 2 ^ s := Nat.one_le_two_pow
    rw [show ((2 ^ s : Nat) : Int) - 1 = ((2 ^ s - 1 : Nat) : Int) by omega, u64_wrap_nat _ hmk]
  have e1 : bits .xor .u64 IntKind.u64.max ((2 ^ s - 1 : Nat) : Int) = ((flipW (2 ^ s - 1) : Nat) : Int) := bits_flip _ hmk
  have hfl := flipW_lt _ hmk
  have e2 : bits .xor .u64 IntKind.u64.max ((flipW (2 ^ s - 1) : Nat) : Int) = ((flipW (flipW (2 ^ s - 1)) : Nat) : Int) := bits_flip _ hfl
  have e3 : bits .and .u64 ((ws.getD e 0 : Nat) : Int) ((flipW (2 ^ s - 1) : Nat) : Int) = ((ws.getD e 0 &&& flipW (2 ^ s - 1) : Nat) : Int) := bits_and_nat _ _ hXlt hfl
  have e4 : bits .and .u64 ((ws.getD e 0 : Nat) : Int) ((flipW (flipW (2 ^ s - 1)) : Nat) : Int) = ((ws.getD e 0 &&& flipW (flipW (2 ^ s - 1)) : Nat) : Int) := bits_and_nat _ _ hXlt (flipW_lt _ hfl)
  have e5 : ((ws.getD e 0 &&& flipW (2 ^ s - 1) : Nat) : Int) / 2 = ((down 1 (ws.getD e 0 &&& flipW (2 ^ s - 1)) : Nat) : Int) := int_down 1 _
  have e6 : bits .and .u64 ((down 1 (ws.getD e 0 &&& flipW (2 ^ s - 1)) : Nat) : Int) ((flipW (2 ^ s - 1) : Nat) : Int) = ((down 1 (ws.getD e 0 &&& flipW (2 ^ s - 1)) &&& flipW (2 ^ s - 1) : Nat) : Int) := bits_and_nat _ _ (down_lt _ _ (and_lt_left _ _ hXlt)) hfl
  have e7 : bits .or .u64 ((ws.getD e 0 &&& flipW (flipW (2 ^ s - 1)) : Nat) : Int) ((down 1 (ws.getD e 0 &&& flipW (2 ^ s - 1)) &&& flipW (2 ^ s - 1) : Nat) : Int) = ((delE (ws.getD e 0) s : Nat) : Int) := bits_or_nat _ _ (and_lt_left _ _ hXlt) (and_lt_left _ _ (down_lt _ _ (and_lt_left _ _ hXlt)))
  have R0 := (hr.set e (ws.getD e 0 &&& flipW (flipW (2 ^ s - 1)))).set e (delE (ws.getD e 0) s)
  rw [delL_start] at R0
  have Q0 := (hh.other (o := e) hne (.int .u64 ((ws.getD e 0 &&& flipW (flipW (2 ^ s - 1)) : Nat) : Int))).other (o := e) hne (.int .u64 ((delE (ws.getD e 0) s : Nat) : Int))
  have K0 := ((Kept.refl [b, g] w).setCell (p := ⟨g, e, none⟩) (by left; simp) (.int .u64 ((ws.getD e 0 &&& flipW (flipW (2 ^ s - 1)) : Nat) : Int))).setCell (p := ⟨g, e, none⟩) (by left; simp) (.int .u64 ((delE (ws.getD e 0) s : Nat) : Int))
  generalize hXx : ws.getD e 0 = X at *
  have HX := Lib.hid hXx; clear hXx
  have E0 := Lib.hid e0; have E1 := Lib.hid e1; have E2 := Lib.hid e2; have E3 := Lib.hid e3; have E4 := Lib.hid e4; have E5 := Lib.hid e5; have E6 := Lib.hid e6; have E7 := Lib.hid e7
  clear e0 e1 e2 e3 e4 e5 e6 e7
  have HS := Lib.hid hs; have HE1 := Lib.hid he1; have HM := Lib.hid hm; have HL := Lib.hid hl; have HE := Lib.hid he
  clear hs he1 hm hl he
  have ho0 : (0 : Int) ≤ (e : Int) := by omega
  have ho1 : (e : Int) < (m : Int) := by omega
  go_enter Try.func54, Try.ntmps54
  go_wp2_with fail
  rw [HE1.out]
  go_wp2_with (go_at_call 63; refine (wordsIndex_c i (by omega) _).mono ?_; rintro e w' ⟨rfl, rfl⟩)
  rw [HS.out, E0.out, E1.out, E2.out, E3.out, E4.out, E5.out, E6.out, E7.out]
  clear hc0 hc1 hX hf
  generalize ((w.setCell ⟨g, e, none⟩ (.int .u64 ((X &&& flipW (flipW (2 ^ s - 1)) : Nat) : Int))).setCell ⟨g, e, none⟩ (.int .u64 ((delE X s : Nat) : Int))) = W1 at *
  have hst : Kept [b, g] w W1 ∧ Hdr W1 b n g m cap ∧ URow W1 g (delL ws e s (e + 1)) cap := ⟨K0, Q0, R0⟩
  go_loopw [8] (fun v wr => ∃ k : Nat, e < k ∧ k ≤ m ∧ v = .int .i64 k ∧ Kept [b, g] w wr ∧ Hdr wr b n g m cap ∧ URow wr g (delL ws e s k) cap) (fun v _ => m - (intOf v).toNat)
  case atStart => exact ⟨e + 1, by omega, by omega, by go_num, hst⟩
  case round =>
    obtain ⟨k, hk1, hk2, rfl, q1, q2, q3⟩ := hrel
    by_cases hkm : k < m
    · have cX := q3.cell (k - 1) (by rw [delL_length, HM.out]; omega)
      have cY := q3.cell k (by rw [delL_length, HM.out]; omega)
      have g1 : (delL ws e s k).getD (k - 1) 0 = delP ws e s (k - 1) := by
        unfold delL
        rw [part_getD _ _ _ _ (by rw [HM.out]; omega), if_pos (by simp; omega), if_neg (by omega)]
      have g2 : (delL ws e s k).getD k 0 = ws.getD k 0 := by
        unfold delL
        rw [part_getD _ _ _ _ (by rw [HM.out]; omega), if_neg (by simp)]
      rw [g1] at cX
      rw [g2] at cY
      have hf := q3.free k
      have hf1 := q3.free (k - 1)
      have c1 := q2.c1
      have hYlt := hwl k
      have hPlt := delP_lt hw.lt e s (k - 1)
      have R1 := q3.set (k - 1) (delW ws e s (k - 1))
      have R2 := R1.set k (down 1 (ws.getD k 0))
      rw [delL_step _ _ _ _ hk1] at R2
      have cY1 := R1.cell k (by rw [List.length_set, delL_length, HM.out]; omega)
      rw [getD_set _ _ _ _ (by rw [delL_length, HM.out]; omega), if_neg (by omega), g2] at cY1
      have cH1 := (q2.other (o := k - 1) hne (.int .u64 ((delW ws e s (k - 1) : Nat) : Int))).c1
      have hf2 := R1.free k
      have Q2 := (q2.other (o := k - 1) hne (.int .u64 ((delW ws e s (k - 1) : Nat) : Int))).other (o := k) hne (.int .u64 ((down 1 (ws.getD k 0) : Nat) : Int))
      have Q1 := (q1.setCell (p := ⟨g, k - 1, none⟩) (by left; simp) (.int .u64 ((delW ws e s (k - 1) : Nat) : Int))).setCell (p := ⟨g, k, none⟩) (by left; simp) (.int .u64 ((down 1 (ws.getD k 0) : Nat) : Int))
      have a1 : bits .and .u64 ((ws.getD k 0 : Nat) : Int) 1 = ((ws.getD k 0 &&& 1 : Nat) : Int) := bits_and_nat _ 1 hYlt (by decide)
      have a2 : IntKind.u64.wrap (((ws.getD k 0 &&& 1 : Nat) : Int) * 9223372036854775808) = ((up 63 (ws.getD k 0 &&& 1) : Nat) : Int) := wrap_up 63 _
      have a3 : bits .or .u64 ((delP ws e s (k - 1) : Nat) : Int) ((up 63 (ws.getD k 0 &&& 1) : Nat) : Int) = ((delW ws e s (k - 1) : Nat) : Int) := by
        rw [bits_or_nat _ _ hPlt (up_lt _ _)]
        unfold delW
        rw [show k - 1 + 1 = k by omega]
      have a4 : ((ws.getD k 0 : Nat) : Int) / 2 = ((down 1 (ws.getD k 0) : Nat) : Int) := int_down 1 _
      clear g1 g2
      have i0 : (0 : Int) ≤ (k : Int) := by omega
      have i1 : (k : Int) < (m : Int) := by omega
      have j0 : (0 : Int) ≤ (k : Int) - 1 := by omega
      have j1 : (k : Int) - 1 < (m : Int) := by omega
      have j2 : ((k : Int) - 1).toNat = k - 1 := by omega
      have j3 : IntKind.i64.wrap ((k : Int) - 1) = (k : Int) - 1 := by rw [IntKind.wrap_i64]; omega
      generalize ws.getD k 0 = Y at *
      generalize delP ws e s (k - 1) = Pk at *
      generalize delW ws e s (k - 1) = Dk at *
      have A1 := Lib.hid a1; have A2 := Lib.hid a2; have A3 := Lib.hid a3; have A4 := Lib.hid a4
      clear a1 a2 a3 a4
      go_wp2_with fail
      go_region
      all_goals
        rw [A1.out, A2.out, A3.out]
        go_wp2_with fail
        rw [A4.out]
        go_roundw
        case rel => exact ⟨k + 1, by omega, by omega, by go_num, Q1.drew, Q2, R2⟩
        case measure => simp [intOf]; omega
    · have hkn : k = m := by omega
      subst hkn
      have c0 := q2.c0
      have c1 := q2.c1
      have z0 := q2.free 0
      have z1 := q2.free 1
      have Qn := q2.setLen (n - 1)
      have Rn := q3.other (o := 0) (Ne.symm hne) (.int .u64 ((n - 1 : Nat) : Int))
      have Kn := q1.setCell (p := ⟨b, 0, none⟩) (by left; simp) (.int .u64 ((n - 1 : Nat) : Int))
      have w1 : IntKind.u64.wrap ((n : Int) - 1) = ((n - 1 : Nat) : Int) := by rw [IntKind.wrap_u64]; omega
      have w2 : (n : Int) - 1 = ((n - 1 : Nat) : Int) := by omega
      have W2 := Lib.hid w2; clear w1 w2
      go_wp2_with fail
      rw [W2.out]
      refine (wordCountN_c b (n - 1) _ Qn.c0 (by omega)).mono ?_
      rintro e' w' ⟨rfl, rfl⟩
      obtain ⟨c, hc⟩ : ∃ c, (n - 1 + 63) / 64 = c := ⟨_, rfl⟩
      rw [hc] at hm2 ⊢
      have hfc := hfin c hc.symm
      have HC := Lib.hid hc; clear hc hfin
      have d1 := Qn.c1
      have d0 := Qn.c0
      have df := Qn.free 1
      clear c0 c1 z0 z1 q1 q2 q3
      generalize wr.setCell ⟨b, 0, none⟩ (.int .u64 ((n - 1 : Nat) : Int)) = W9 at *
      by_cases hck : c < k
      · have i0 : (c : Int) < (k : Int) := by omega
        have i1 : (0 : Int) ≤ (c : Int) := by omega
        have i2 : (c : Int) ≤ (cap : Int) := by omega
        go_wp2_with fail
        go_ret
        refine ⟨rfl, ⟨hne, cap, _, ?_, (Rn.other (o := 1) (Ne.symm hne) _).take c, hfc⟩, Kn.setCell (by left; simp) _⟩
        rw [show (List.take c (delL ws e s k)).length = c by rw [List.length_take, delL_length, HM.out]; omega]
        exact Qn.setRow g c cap
      · have hck2 : c = k := by omega
        have i0 : ¬ (c : Int) < (k : Int) := by omega
        go_wp2_with fail
        go_ret
        refine ⟨rfl, ⟨hne, cap, _, ?_, Rn, ?_⟩, Kn⟩
        · rw [delL_length, HM.out]; exact Qn
        · rw [List.take_of_length_le (by rw [delL_length, HM.out]; omega)] at hfc; exact hfc

end Go.Proofs.Ytiaghdnhapiioaa

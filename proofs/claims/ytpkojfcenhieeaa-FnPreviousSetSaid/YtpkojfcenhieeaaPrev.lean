/-
  The contracts of PreviousSet and PreviousClear; for sets of at most 20001 bits.
-/
import Derived.Test.YtpkojfcenhieeaaLen
import Derived.Test.YtpkojfcenhieeaaPart
namespace Go.Proofs.Ytpkojfcenhieeaa
set_option linter.unusedSimpArgs false
set_option linter.unusedVariables false
open Go.RowKit


theorem prev_mask (X s : Nat) (hs : s < 64) (hX : X < 2 ^ 64) : bits .and .u64 (X : Int) (IntKind.u64.wrap (IntKind.u64.wrap (2 ^ (s + 1)) - 1)) = ((X &&& (2 ^ (s + 1) - 1) : Nat) : Int) := by
  have e : IntKind.u64.wrap (IntKind.u64.wrap (2 ^ (s + 1)) - 1) = ((2 ^ (s + 1) - 1 : Nat) : Int) := by
    by_cases h : s = 63
    · subst h; decide
    · rw [wrap_pow (s + 1) (by omega)]
      have : 1 ≤ 2 ^ (s + 1) := Nat.one_le_two_pow
      rw [show ((2 ^ (s + 1) : Nat) : Int) - 1 = ((2 ^ (s + 1) - 1 : Nat) : Int) by omega, u64_wrap_nat _ (Nat.lt_of_le_of_lt (Nat.sub_le _ _) (pow_lt (s + 1) (by omega)))]
  rw [e]
  refine bits_and_nat _ _ hX ?_
  by_cases h : s = 63
  · subst h; decide
  · exact Nat.lt_of_le_of_lt (Nat.sub_le _ _) (pow_lt (s + 1) (by omega))

set_option maxHeartbeats 1000000 in
theorem previousSet_c (b g n i : Nat) (f : Nat → Bool) (w : World) (h : BSet w b g n f) (hn : n ≤ 20001) (hi : i < n) :
    Calls Try.prog 20 #[.pointer (some ⟨b, 0, none⟩), .int .u64 i] w fun e w' => e = .returned (.tuple (topV (lst (f) (i + 1)))) ∧ w' = w := by
  obtain ⟨hne, cap, ws, hh, hr, hw⟩ := h
  have hl := hw.length
  have hle := hr.le
  have hc0 := hh.c0
  have hc1 := hh.c1
  obtain ⟨m, hm⟩ : ∃ m, ws.length = m := ⟨_, rfl⟩
  rw [hm] at hc1 hl hle
  obtain ⟨p, hp⟩ : ∃ p, i / 64 = p := ⟨_, rfl⟩
  obtain ⟨s, hs⟩ : ∃ s, i % 64 = s := ⟨_, rfl⟩
  have hpm : p < m := by omega
  have hm4 : m ≤ 400 := by omega
  have hs64 : s < 64 := by omega
  have e1 : (i : Int) / 64 = (p : Int) := by omega
  have hips : i = 64 * p + s := by omega
  have hC : ∀ q, q < m → w.cell? ⟨g, q, none⟩ = some (.int .u64 (ws.getD q 0 : Nat)) := fun q hq => hr.cell q (by omega)
  have tl : ∀ q t, q < p → t < 64 → (ws.getD q 0).testBit t = (decide (64 * q + t < i + 1) && (f) (64 * q + t)) := fun q t hq ht => by
    rw [hw.testAt q t ht, decide_eq_true (show 64 * q + t < n by omega), decide_eq_true (show 64 * q + t < i + 1 by omega)]
  have t0 : ∀ t, t < 64 → (ws.getD p 0 &&& (2 ^ (s + 1) - 1)).testBit t = (decide (64 * p + t < i + 1) && (f) (64 * p + t)) := fun t ht => by
    rw [Nat.testBit_and, two_pow_sub_testBit, hw.testAt p t ht]
    by_cases c : t < s + 1
    · rw [decide_eq_true c, decide_eq_true (show 64 * p + t < n by omega), decide_eq_true (show 64 * p + t < i + 1 by omega)]; simp
    · rw [decide_eq_false c, decide_eq_false (show ¬ 64 * p + t < i + 1 by omega)]; simp
  have hXp := hw.word p
  have cXp := hC p hpm
  have HC := Lib.hid hC; have HW := Lib.hid hw.word; have TL := Lib.hid tl; have HS := Lib.hid hs; have HI := Lib.hid hips
  clear hC hr hw hm hl hs hips tl hp
  have t0 := t0
  generalize ws.getD p 0 = Z at *
  have m1 : bits .and .u64 ((Z : Int)) (IntKind.u64.wrap (IntKind.u64.wrap (2 ^ (s + 1)) - 1)) = ((Z &&& (2 ^ (s + 1) - 1) : Nat) : Int) := by
    exact prev_mask Z s hs64 hXp
  have hYl : Z &&& (2 ^ (s + 1) - 1) < 2 ^ 64 := Nat.lt_of_le_of_lt Nat.and_le_left (by exact hXp)
  generalize hY : Z &&& (2 ^ (s + 1) - 1) = Y at *
  have M1 := Lib.hid m1; have HY := Lib.hid hY; clear hY
  by_cases hY0 : Y = 0
  · subst hY0
    have R := zero_word (f) (i + 1) p 0 rfl t0 (fun j h1 h2 => by have := HI.out; omega)
    have HR := Lib.hid R; clear R t0
    have d0 : (bits .and .u64 ((Z : Int)) (IntKind.u64.wrap (IntKind.u64.wrap (2 ^ (s + 1)) - 1)) != 0) = false := by
      show (bits .and .u64 ((Z : Int)) _ != 0) = false
      rw [m1]; rfl
    clear m1
    go_enter Try.func20, Try.ntmps20
    go_wp2_with (first
      | (go_at_call 27; refine (wordsIndex_c i (by omega) _).mono ?_; rintro e w' ⟨rfl, rfl⟩; rw [HS.out]))
    go_loop [6] (fun v => ∃ (k : Nat) (x : Int), k ≤ p ∧ v = .int .i64 x ∧ x + 1 = k ∧ Hid (∀ j, 64 * k ≤ j → j < i + 1 → (f) j = false)) (fun v => (intOf v + 1).toNat)
    case atStart => exact ⟨p, (p : Int) - 1, Nat.le_refl _, by go_num, by omega, HR⟩
    case round =>
      obtain ⟨k, x, hk, rfl, hx, hz⟩ := hrel
      rcases k with _ | q
      · obtain rfl : x = -1 := by omega
        go_wp2
        refine bodyPost_ret (v := .tuple #[.int .u64 0, .bool false]) (by simp [results, Try.results20, go_sem]) rfl ⟨?_, rfl⟩
        rw [lst_nil _ _ (fun j hj => hz.out j (by omega) hj), topV_zero]
      · obtain rfl : x = (q : Int) := by omega
        have cX := HC.out q (by omega)
        have hX0 := HW.out q
        have tb0 := TL.out q
        have tb : ∀ t, t < 64 → (ws.getD q 0).testBit t = (decide (64 * q + t < i + 1) && (f) (64 * q + t)) := fun t ht => tb0 t (by omega) ht
        clear tb0 d0
        have hX := hX0; clear hX0
        generalize ws.getD q 0 = X at *
        by_cases hX0 : X = 0
        · subst hX0
          have R := zero_word (f) (i + 1) q 0 rfl tb (fun j h1 h2 => hz.out j (by omega) h2)
          have HR := Lib.hid R; clear R tb
          skip
          go_wp2
          go_round
          case rel => exact ⟨q, (q : Int) - 1, by omega, by go_num, by omega, HR⟩
          case measure => simp [intOf] <;> omega
        · obtain ⟨e1, e2, e3⟩ := lst_word (f) (i + 1) q X hX hX0 tb (fun j h1 h2 => hz.out j (by omega) h2)
          have hX1 : ¬ (X : Int) = 0 := by omega
          clear tb
          skip
          obtain ⟨B, hB⟩ : ∃ B, Lib.bitLen X = B := ⟨_, rfl⟩
          rw [hB] at e1 e2 e3
          have e4 : lst (f) (i + 1) ≠ 0 := by omega
          have e5 : lst (f) (i + 1) - 1 = 64 * q + B - 1 := by omega
          have HB := Lib.hid hB; have E4 := Lib.hid e4; have E5 := Lib.hid e5; clear hB e4 e5 e1
          go_wp2_with (first
            | (go_at_call 28; refine (len64_c X _ hX).mono ?_; rintro e w' ⟨rfl, rfl⟩; rw [HB.out])
            | (go_at_call 27; refine (wordsIndex_c i (by omega) _).mono ?_; rintro e w' ⟨rfl, rfl⟩; rw [HS.out]))
          refine bodyPost_ret (v := .tuple #[.int .u64 (64 * q + B - 1 : Nat), .bool true]) (by simp [results, Try.results20, go_sem] <;> omega) rfl ⟨by rw [topV_pos E4.out, E5.out], rfl⟩
  · obtain ⟨e1', e2, e3⟩ := lst_word (f) (i + 1) p Y hYl hY0 t0 (fun j h1 h2 => by have := HI.out; omega)
    have d0 : (bits .and .u64 ((Z : Int)) (IntKind.u64.wrap (IntKind.u64.wrap (2 ^ (s + 1)) - 1)) != 0) = true := by
      show (bits .and .u64 ((Z : Int)) _ != 0) = true
      rw [m1]; simpa using hY0
    clear m1 t0
    go_enter Try.func20, Try.ntmps20
    obtain ⟨B, hB⟩ : ∃ B, Lib.bitLen Y = B := ⟨_, rfl⟩
    rw [hB] at e1' e2 e3
    have e4 : lst (f) (i + 1) ≠ 0 := by omega
    have e5 : lst (f) (i + 1) - 1 = 64 * p + B - 1 := by omega
    have HB := Lib.hid hB; have E4 := Lib.hid e4; have E5 := Lib.hid e5; clear hB e4 e5 e1'
    go_wp2_with (first
      | (go_at_call 28; rw [M1.out]; refine (len64_c Y _ hYl).mono ?_; rintro e w' ⟨rfl, rfl⟩; rw [HB.out])
      | (go_at_call 27; refine (wordsIndex_c i (by omega) _).mono ?_; rintro e w' ⟨rfl, rfl⟩; rw [HS.out]))
    refine bodyPost_ret (v := .tuple #[.int .u64 (64 * p + B - 1 : Nat), .bool true]) (by simp [results, Try.results20, go_sem] <;> omega) rfl ⟨by rw [topV_pos E4.out, E5.out], rfl⟩
set_option maxHeartbeats 1000000 in
theorem previousClear_c (b g n i : Nat) (f : Nat → Bool) (w : World) (h : BSet w b g n f) (hn : n ≤ 20001) (hi : i < n) :
    Calls Try.prog 21 #[.pointer (some ⟨b, 0, none⟩), .int .u64 i] w fun e w' => e = .returned (.tuple (topV (lst (fun j => !f j) (i + 1)))) ∧ w' = w := by
  obtain ⟨hne, cap, ws, hh, hr, hw⟩ := h
  have hl := hw.length
  have hle := hr.le
  have hc0 := hh.c0
  have hc1 := hh.c1
  obtain ⟨m, hm⟩ : ∃ m, ws.length = m := ⟨_, rfl⟩
  rw [hm] at hc1 hl hle
  obtain ⟨p, hp⟩ : ∃ p, i / 64 = p := ⟨_, rfl⟩
  obtain ⟨s, hs⟩ : ∃ s, i % 64 = s := ⟨_, rfl⟩
  have hpm : p < m := by omega
  have hm4 : m ≤ 400 := by omega
  have hs64 : s < 64 := by omega
  have e1 : (i : Int) / 64 = (p : Int) := by omega
  have hips : i = 64 * p + s := by omega
  have hC : ∀ q, q < m → w.cell? ⟨g, q, none⟩ = some (.int .u64 (ws.getD q 0 : Nat)) := fun q hq => hr.cell q (by omega)
  have tl : ∀ q t, q < p → t < 64 → (flipW (ws.getD q 0)).testBit t = (decide (64 * q + t < i + 1) && (fun j => !f j) (64 * q + t)) := fun q t hq ht => by
    rw [testBit_flipW _ _ ht, hw.testAt q t ht, decide_eq_true (show 64 * q + t < n by omega), decide_eq_true (show 64 * q + t < i + 1 by omega), Bool.true_and, Bool.true_and]
  have t0 : ∀ t, t < 64 → (flipW (ws.getD p 0) &&& (2 ^ (s + 1) - 1)).testBit t = (decide (64 * p + t < i + 1) && (fun j => !f j) (64 * p + t)) := fun t ht => by
    rw [Nat.testBit_and, two_pow_sub_testBit, testBit_flipW _ _ ht, hw.testAt p t ht]
    by_cases c : t < s + 1
    · rw [decide_eq_true c, decide_eq_true (show 64 * p + t < n by omega), decide_eq_true (show 64 * p + t < i + 1 by omega)]; simp
    · rw [decide_eq_false c, decide_eq_false (show ¬ 64 * p + t < i + 1 by omega)]; simp
  have hXp := hw.word p
  have cXp := hC p hpm
  have HC := Lib.hid hC; have HW := Lib.hid hw.word; have TL := Lib.hid tl; have HS := Lib.hid hs; have HI := Lib.hid hips
  clear hC hr hw hm hl hs hips tl hp
  have t0 := t0
  generalize ws.getD p 0 = Z at *
  have fX : bits .xor .u64 IntKind.u64.max (Z : Int) = ((flipW Z : Nat) : Int) := bits_flip Z hXp
  have m1 : bits .and .u64 (bits .xor .u64 IntKind.u64.max (Z : Int)) (IntKind.u64.wrap (IntKind.u64.wrap (2 ^ (s + 1)) - 1)) = ((flipW Z &&& (2 ^ (s + 1) - 1) : Nat) : Int) := by
    rw [fX]; exact prev_mask _ s hs64 (flipW_lt _ hXp)
  clear fX
  have hYl : flipW Z &&& (2 ^ (s + 1) - 1) < 2 ^ 64 := Nat.lt_of_le_of_lt Nat.and_le_left (by exact flipW_lt _ hXp)
  generalize hY : flipW Z &&& (2 ^ (s + 1) - 1) = Y at *
  have M1 := Lib.hid m1; have HY := Lib.hid hY; clear hY
  by_cases hY0 : Y = 0
  · subst hY0
    have R := zero_word (fun j => !f j) (i + 1) p 0 rfl t0 (fun j h1 h2 => by have := HI.out; omega)
    have HR := Lib.hid R; clear R t0
    have d0 : (bits .and .u64 (bits .xor .u64 (if IntKind.u64.signed = true then -1 else IntKind.u64.max) (Z : Int)) (IntKind.u64.wrap (IntKind.u64.wrap (2 ^ (s + 1)) - 1)) != 0) = false := by
      show (bits .and .u64 (bits .xor .u64 IntKind.u64.max (Z : Int)) _ != 0) = false
      rw [m1]; rfl
    clear m1
    go_enter Try.func21, Try.ntmps21
    go_wp2_with (first
      | (go_at_call 27; refine (wordsIndex_c i (by omega) _).mono ?_; rintro e w' ⟨rfl, rfl⟩; rw [HS.out]))
    go_loop [6] (fun v => ∃ (k : Nat) (x : Int), k ≤ p ∧ v = .int .i64 x ∧ x + 1 = k ∧ Hid (∀ j, 64 * k ≤ j → j < i + 1 → (fun j => !f j) j = false)) (fun v => (intOf v + 1).toNat)
    case atStart => exact ⟨p, (p : Int) - 1, Nat.le_refl _, by go_num, by omega, HR⟩
    case round =>
      obtain ⟨k, x, hk, rfl, hx, hz⟩ := hrel
      rcases k with _ | q
      · obtain rfl : x = -1 := by omega
        go_wp2
        refine bodyPost_ret (v := .tuple #[.int .u64 0, .bool false]) (by simp [results, Try.results21, go_sem]) rfl ⟨?_, rfl⟩
        rw [lst_nil _ _ (fun j hj => hz.out j (by omega) hj), topV_zero]
      · obtain rfl : x = (q : Int) := by omega
        have cX := HC.out q (by omega)
        have hX0 := HW.out q
        have tb0 := TL.out q
        have tb : ∀ t, t < 64 → (flipW (ws.getD q 0)).testBit t = (decide (64 * q + t < i + 1) && (fun j => !f j) (64 * q + t)) := fun t ht => tb0 t (by omega) ht
        clear tb0 d0
        generalize ws.getD q 0 = X1 at *
        have fX : bits .xor .u64 IntKind.u64.max (X1 : Int) = ((flipW X1 : Nat) : Int) := bits_flip X1 hX0
        have hX := flipW_lt X1 hX0
        generalize flipW X1 = X at *
        have FX := Lib.hid fX; clear hX0
        by_cases hX0 : X = 0
        · subst hX0
          have R := zero_word (fun j => !f j) (i + 1) q 0 rfl tb (fun j h1 h2 => hz.out j (by omega) h2)
          have HR := Lib.hid R; clear R tb
          have dd : (bits .xor .u64 (if IntKind.u64.signed = true then -1 else IntKind.u64.max) (X1 : Int) != 0) = false := by
            show (bits .xor .u64 IntKind.u64.max (X1 : Int) != 0) = false
            rw [fX]; rfl
          have dd2 : (bits .xor .u64 IntKind.u64.max (X1 : Int) != 0) = false := dd
          have FX := Lib.hid fX; clear fX
          go_wp2
          go_round
          case rel => exact ⟨q, (q : Int) - 1, by omega, by go_num, by omega, HR⟩
          case measure => simp [intOf] <;> omega
        · obtain ⟨e1, e2, e3⟩ := lst_word (fun j => !f j) (i + 1) q X hX hX0 tb (fun j h1 h2 => hz.out j (by omega) h2)
          have hX1 : ¬ (X : Int) = 0 := by omega
          clear tb
          have dd : (bits .xor .u64 (if IntKind.u64.signed = true then -1 else IntKind.u64.max) (X1 : Int) != 0) = true := by
            show (bits .xor .u64 IntKind.u64.max (X1 : Int) != 0) = true
            rw [fX]; simpa using hX0
          have dd2 : (bits .xor .u64 IntKind.u64.max (X1 : Int) != 0) = true := dd
          clear fX
          obtain ⟨B, hB⟩ : ∃ B, Lib.bitLen X = B := ⟨_, rfl⟩
          rw [hB] at e1 e2 e3
          have e4 : lst (fun j => !f j) (i + 1) ≠ 0 := by omega
          have e5 : lst (fun j => !f j) (i + 1) - 1 = 64 * q + B - 1 := by omega
          have HB := Lib.hid hB; have E4 := Lib.hid e4; have E5 := Lib.hid e5; clear hB e4 e5 e1
          go_wp2_with (first
            | (go_at_call 28; rw [FX.out]; refine (len64_c X _ hX).mono ?_; rintro e w' ⟨rfl, rfl⟩; rw [HB.out])
            | (go_at_call 27; refine (wordsIndex_c i (by omega) _).mono ?_; rintro e w' ⟨rfl, rfl⟩; rw [HS.out]))
          refine bodyPost_ret (v := .tuple #[.int .u64 (64 * q + B - 1 : Nat), .bool true]) (by simp [results, Try.results21, go_sem] <;> omega) rfl ⟨by rw [topV_pos E4.out, E5.out], rfl⟩
  · obtain ⟨e1', e2, e3⟩ := lst_word (fun j => !f j) (i + 1) p Y hYl hY0 t0 (fun j h1 h2 => by have := HI.out; omega)
    have d0 : (bits .and .u64 (bits .xor .u64 (if IntKind.u64.signed = true then -1 else IntKind.u64.max) (Z : Int)) (IntKind.u64.wrap (IntKind.u64.wrap (2 ^ (s + 1)) - 1)) != 0) = true := by
      show (bits .and .u64 (bits .xor .u64 IntKind.u64.max (Z : Int)) _ != 0) = true
      rw [m1]; simpa using hY0
    clear m1 t0
    go_enter Try.func21, Try.ntmps21
    obtain ⟨B, hB⟩ : ∃ B, Lib.bitLen Y = B := ⟨_, rfl⟩
    rw [hB] at e1' e2 e3
    have e4 : lst (fun j => !f j) (i + 1) ≠ 0 := by omega
    have e5 : lst (fun j => !f j) (i + 1) - 1 = 64 * p + B - 1 := by omega
    have HB := Lib.hid hB; have E4 := Lib.hid e4; have E5 := Lib.hid e5; clear hB e4 e5 e1'
    go_wp2_with (first
      | (go_at_call 28; rw [M1.out]; refine (len64_c Y _ hYl).mono ?_; rintro e w' ⟨rfl, rfl⟩; rw [HB.out])
      | (go_at_call 27; refine (wordsIndex_c i (by omega) _).mono ?_; rintro e w' ⟨rfl, rfl⟩; rw [HS.out]))
    refine bodyPost_ret (v := .tuple #[.int .u64 (64 * p + B - 1 : Nat), .bool true]) (by simp [results, Try.results21, go_sem] <;> omega) rfl ⟨by rw [topV_pos E4.out, E5.out], rfl⟩

end Go.Proofs.Ytpkojfcenhieeaa

/-
  The contract of Rank; lists of a set's bits, parted. For sets of at most 20001 bits.
-/
import Derived.Test.YtpkojfcenhieeaaCntOn
namespace Go.Proofs.Ytpkojfcenhieeaa
set_option linter.unusedSimpArgs false
set_option linter.unusedVariables false
open Go.RowKit


theorem pop_up (X s : Nat) (G : Nat → Bool) (hs : s < 64) (h : ∀ t, t < s + 1 → X.testBit t = G t) : pop (up (63 - s) X) = (onL (s + 1) G).length := by
  have e : (onL 64 (up (63 - s) X).testBit).length = (onL ((63 - s) + (s + 1)) (up (63 - s) X).testBit).length := by rw [show (63 - s) + (s + 1) = 64 by omega]
  unfold pop
  rw [e, onL_len_add, onL_none (63 - s) _ (fun j hj => by rw [testBit_up, decide_eq_false (show ¬ 63 - s ≤ j by omega)]; simp), onL_congr (s + 1) _ G (fun j hj => by
    rw [testBit_up, decide_eq_true (show 63 - s + j < 64 by omega), decide_eq_true (show 63 - s ≤ 63 - s + j by omega), show 63 - s + j - (63 - s) = j by omega, h j hj]; rfl)]
  simp
theorem rank_words {ws : List Nat} {n : Nat} {f : Nat → Bool} (h : WordsOk ws n f) (i p s : Nat) (hi : i < n) (e : i = 64 * p + s) (hs : s < 64) :
    sumN (fun q => pop (ws.getD q 0)) p + pop (up (63 - s) (ws.getD p 0)) = (onL (i + 1) f).length := by
  rw [count_words (fun q => ws.getD q 0) f p (fun q t hq ht => by show (ws.getD q 0).testBit t = _; rw [h.testAt q t ht, decide_eq_true (show 64 * q + t < n by omega)]; rfl),
    pop_up _ s (fun t => f (64 * p + t)) hs (fun t ht => by rw [h.testAt p t (by omega), decide_eq_true (show 64 * p + t < n by omega)]; rfl), show (onL (i + 1) f).length = (onL (64 * p + (s + 1)) f).length by rw [show i + 1 = 64 * p + (s + 1) by omega], onL_len_add (64 * p) (s + 1) f]

/-! ### a set's bits in order -/
theorem onL_add (m n : Nat) (f : Nat → Bool) : onL (m + n) f = onL m f ++ (onL n (fun j => f (m + j))).map (m + ·) := by
  unfold onL
  rw [List.range_add, List.filter_append, List.filter_map]
  rfl
theorem onL_prefix (c n : Nat) (f : Nat → Bool) (h : c ≤ n) : ∃ r, onL n f = onL c f ++ r := by
  obtain ⟨d, rfl⟩ : ∃ d, n = c + d := ⟨n - c, by omega⟩
  exact ⟨_, onL_add c d f⟩
theorem getD_left (a b : List Nat) (j : Nat) (h : j < a.length) : (a ++ b).getD j 0 = a.getD j 0 := by
  rw [List.getD_eq_getElem?_getD, List.getElem?_append_left h, ← List.getD_eq_getElem?_getD]
theorem getD_right (a b : List Nat) (j : Nat) (h : a.length ≤ j) : (a ++ b).getD j 0 = b.getD (j - a.length) 0 := by
  rw [List.getD_eq_getElem?_getD, List.getElem?_append_right h, ← List.getD_eq_getElem?_getD]
theorem getD_map_add (m : Nat) (l : List Nat) (j : Nat) (h : j < l.length) : (l.map (m + ·)).getD j 0 = m + l.getD j 0 := by
  rw [getD_in _ _ _ (by simpa using h), getD_in _ _ _ h]; simp
theorem onL_hit (n c : Nat) (f : Nat → Bool) (h : c < n) (hf : f c = true) : (onL n f).getD (onL c f).length 0 = c ∧ (onL c f).length < (onL n f).length := by
  obtain ⟨r, hr⟩ := onL_prefix (c + 1) n f h
  rw [onL_yes hf] at hr
  rw [hr]
  refine ⟨?_, by simp⟩
  rw [getD_left _ _ _ (by simp), getD_right _ _ _ (Nat.le_refl _)]
  simp
/-- The rank of a set's bit of number j is one more than j. -/
theorem onL_rank (n : Nat) (f : Nat → Bool) (j : Nat) (h : j < (onL n f).length) : (onL ((onL n f).getD j 0 + 1) f).length = j + 1 := by
  induction n with
  | zero => simp [onL] at h
  | succ n ih =>
    cases hf : f n with
    | true =>
      rw [onL_yes hf] at h ⊢
      by_cases h1 : j < (onL n f).length
      · rw [getD_left _ _ _ h1]; exact ih h1
      · rw [List.length_append, List.length_singleton] at h
        have e : j = (onL n f).length := by omega
        rw [getD_right _ _ _ (by omega), e, Nat.sub_self]
        show (onL (n + 1) f).length = _
        rw [onL_yes hf, List.length_append, List.length_singleton]
    | false => rw [onL_no hf] at h ⊢; exact ih h

set_option maxHeartbeats 1000000 in
theorem rank_c (b g n i : Nat) (f : Nat → Bool) (w : World) (h : BSet w b g n f) (hn : n ≤ 20001) (hi : i < n) :
    Calls Try.prog 22 #[.pointer (some ⟨b, 0, none⟩), .int .u64 i] w fun e w' => e = .returned (.int .u64 ((onL (i + 1) f).length : Nat)) ∧ w' = w := by
  obtain ⟨hne, cap, ws, hh, hr, hw⟩ := h
  have hl := hw.length
  have hle := hr.le
  have hc1 := hh.c1
  obtain ⟨m, hm⟩ : ∃ m, ws.length = m := ⟨_, rfl⟩
  rw [hm] at hc1 hl hle
  obtain ⟨p, hp⟩ : ∃ p, i / 64 = p := ⟨_, rfl⟩
  obtain ⟨s, hs⟩ : ∃ s, i % 64 = s := ⟨_, rfl⟩
  have hpm : p < m := by omega
  have hm4 : m ≤ 400 := by omega
  have hd0 : decide (m < p) = false := decide_eq_false (by omega)
  have hs64 : s < 64 := by omega
  have e1 : (i : Int) / 64 = (p : Int) := by omega
  have e2 : bits .and .u64 (i : Int) 63 = (s : Int) := by rw [and63 i (by omega), hs]
  have hfin := rank_words hw i p s hi (by omega) hs64
  have hC : ∀ q, q < m → w.cell? ⟨g, q, none⟩ = some (.int .u64 (ws.getD q 0 : Nat)) := fun q hq => hr.cell q (by omega)
  have cXp := hC p hpm
  have HC := Lib.hid hC; have HW := Lib.hid hw.word; have HF := Lib.hid hfin
  clear hC hr hw hm hl hs hp hfin
  go_enter Try.func22, Try.ntmps22
  go_wp2_with fail
  go_loop [7, 4] (fun v c => ∃ k S : Nat, k ≤ p ∧ v = .int .i64 k ∧ c = .int .u64 S ∧ Hid (sumN (fun q => pop (ws.getD q 0)) k = S)) (fun v _ => p - (intOf v).toNat)
  case atStart => exact ⟨0, 0, Nat.zero_le _, rfl, rfl, rfl⟩
  case round =>
    obtain ⟨k, S, hk, rfl, rfl, HSk⟩ := hrel
    have hsl := sumN_le (fun q => pop (ws.getD q 0)) (fun q => pop_le _) k
    rw [HSk.out] at hsl
    by_cases hkp : k < p
    · have cX := HC.out k (by omega)
      have hX := HW.out k
      have hS : sumN (fun q => pop (ws.getD q 0)) (k + 1) = S + pop (ws.getD k 0) := by rw [← HSk.out]; rfl
      have hpl := pop_le (ws.getD k 0)
      generalize ws.getD k 0 = X at *
      by_cases hX0 : X = 0
      · subst hX0
        have h0 : pop 0 = 0 := by decide
        rw [h0] at hS
        have HS := Lib.hid hS; clear hS h0 hpl
        go_wp2_with fail
        go_round
        case rel => exact ⟨k + 1, S, by omega, by go_num, rfl, HS⟩
        case measure => simp [intOf] <;> omega
      · have hX1 : ¬ (X : Int) = 0 := by omega
        obtain ⟨P, hP⟩ : ∃ P, pop X = P := ⟨_, rfl⟩
        rw [hP] at hS hpl
        have HS := Lib.hid hS; have HP := Lib.hid hP; clear hS hP
        go_wp2_with fail
        refine (onesCount_c X hX _).mono ?_
        rintro e w' ⟨rfl, rfl⟩
        rw [HP.out]
        go_wp2_with fail
        go_round
        case rel => exact ⟨k + 1, S + P, by omega, by go_num, by go_num, HS⟩
        case measure => simp [intOf] <;> omega
    · obtain rfl : k = p := by omega
      have hX := HW.out k
      have hF := HF.out
      rw [HSk.out] at hF
      generalize ws.getD k 0 = X at *
      have HF2 := Lib.hid hF; clear hF HF
      have hU := up_lt (63 - s) X
      have hpl := pop_le (up (63 - s) X)
      go_wp2_with fail
      rw [wrap_up]
      refine (onesCount_c _ hU _).mono ?_
      rintro e w' ⟨rfl, rfl⟩
      generalize pop (up (63 - s) X) = P at *
      go_wp2_with fail
      refine bodyPost_ret (v := .int .u64 (S + P : Nat)) (by simp [results, Try.results22, go_sem] <;> omega) rfl ⟨by rw [HF2.out], rfl⟩

end Go.Proofs.Ytpkojfcenhieeaa

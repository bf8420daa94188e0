/-
  How many bits a set has is the sum over its words; the contract of Count, for sets of at most 20000 bits.
-/
import Derived.Test.YtpkojfcenhieeaaCnt
import Derived.Test.YtpkojfcenhieeaaTwo
import Derived.Test.YtpkojfcenhieeaaLeast
namespace Go.Proofs.Ytpkojfcenhieeaa
set_option linter.unusedSimpArgs false
set_option linter.unusedVariables false
open Go.RowKit

theorem onL_congr (n : Nat) (f g : Nat → Bool) (h : ∀ j, j < n → f j = g j) : onL n f = onL n g := by
  unfold onL
  exact List.filter_congr fun j hj => h j (List.mem_range.1 hj)
theorem sumN_congr (h g : Nat → Nat) (n : Nat) (e : ∀ j, j < n → h j = g j) : sumN h n = sumN g n := by
  induction n with
  | zero => rfl
  | succ n ih => unfold sumN; rw [ih (fun j hj => e j (by omega)), e n (by omega)]
theorem sumN_onL (F : Nat → Bool) (m : Nat) : sumN (fun q => (onL 64 (fun t => F (64 * q + t))).length) m = (onL (64 * m) F).length := by
  induction m with
  | zero => rfl
  | succ m ih =>
    unfold sumN
    rw [ih, show 64 * (m + 1) = 64 * m + 64 by omega, onL_len_add]
/-- Words that tell F bit by bit, counted. -/
theorem count_words (xs : Nat → Nat) (F : Nat → Bool) (m : Nat) (h : ∀ q t, q < m → t < 64 → (xs q).testBit t = F (64 * q + t)) : sumN (fun q => pop (xs q)) m = (onL (64 * m) F).length := by
  rw [← sumN_onL]
  refine sumN_congr _ _ _ fun q hq => ?_
  show (onL 64 (xs q).testBit).length = _
  rw [onL_congr 64 _ _ (fun t ht => h q t hq ht)]
theorem count_set {ws : List Nat} {n : Nat} {f : Nat → Bool} (h : WordsOk ws n f) : sumN (fun q => pop (ws.getD q 0)) ws.length = (onL n f).length := by
  rw [count_words (fun q => ws.getD q 0) (fun j => decide (j < n) && f j) ws.length (fun q t _ ht => h.testAt q t ht)]
  rw [onL_both (64 * ws.length) n (fun j => decide (j < n) && f j) f (fun j => by
    have := h.length
    by_cases hj : j < n
    · rw [decide_eq_true hj, decide_eq_true (show j < 64 * ws.length by omega)]; simp
    · rw [decide_eq_false hj]; simp)]

set_option maxHeartbeats 1000000 in
theorem count_c (b g n : Nat) (f : Nat → Bool) (w : World) (h : BSet w b g n f) (hn : n ≤ 20001) :
    Calls Try.prog 24 #[.pointer (some ⟨b, 0, none⟩)] w fun e w' => e = .returned (.int .u64 ((onL n f).length : Nat)) ∧ w' = w := by
  obtain ⟨hne, cap, ws, hh, hr, hw⟩ := h
  have hl := hw.length
  have hc1 := hh.c1
  have hcnt := count_set hw
  have hnil := fun (wx : World) (a : Addr) (n c : Nat) => Go.run_neq_slice_nil_any (P := Try.prog) wx 48 52 (some a) n c 0 0 Try.underlying48
  simp only [Option.isNone] at hnil
  obtain ⟨m, hm⟩ : ∃ m, ws.length = m := ⟨_, rfl⟩
  rw [hm] at hcnt hl hc1
  have hm4 : m ≤ 400 := by omega
  have hcs : ∀ j, j < m → w.cell? ⟨g, 0 + j, none⟩ = some (.int .u64 (ws.getD j 0 : Nat)) := fun j hj => by rw [Nat.zero_add]; exact hr.cell j (by omega)
  rw [← hcnt]
  have HC := Lib.hid hcs
  clear hcs hcnt hl hm
  go_enter Try.func24, Try.ntmps24
  go_wp2_with fail
  refine (popcntSlice_c g 0 m cap (fun j => ws.getD j 0) w (fun j => hw.word j) hm4 HC.out).mono ?_
  rintro e w' ⟨rfl, rfl⟩
  go_wp2_with fail
  go_ret
  exact ⟨rfl, rfl⟩
end Go.Proofs.Ytpkojfcenhieeaa

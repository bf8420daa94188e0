/-
  The contract of top: the greatest bit that is set; for sets of at most 20001 bits.
-/
import Derived.Test.YtiaghdnhapiioaaLen
namespace Go.Proofs.Ytiaghdnhapiioaa
set_option linter.unusedSimpArgs false
set_option linter.unusedVariables false
open Go.RowKit

set_option maxHeartbeats 1000000 in
theorem btop_c (b g n : Nat) (f : Nat → Bool) (w : World) (h : BSet w b g n f) (hn : n ≤ 20001) :
    Calls Try.prog 69 #[.pointer (some ⟨b, 0, none⟩)] w fun e w' => e = .returned (.tuple (topV (lst (f) n))) ∧ w' = w := by
  obtain ⟨hne, cap, ws, hh, hr, hw⟩ := h
  have hl := hw.length
  have hle := hr.le
  have hc1 := hh.c1
  obtain ⟨m, hm⟩ : ∃ m, ws.length = m := ⟨_, rfl⟩
  rw [hm] at hc1 hl hle
  have hm4 : m ≤ 400 := by omega
  have hz0 : ∀ j, 64 * m ≤ j → j < n → f j = false := fun j h1 h2 => by omega
  have hC : ∀ q, q < m → w.cell? ⟨g, q, none⟩ = some (.int .u64 (ws.getD q 0 : Nat)) := fun q hq => hr.cell q (by omega)
  have HC := Lib.hid hC; have HW := Lib.hid hw.word; have HT := Lib.hid hw.testAt
  clear hC hr hw hm hl
  go_enter Try.func69, Try.ntmps69
  go_wp2
  go_loop [4] (fun v => ∃ (k : Nat) (x : Int), k ≤ m ∧ v = .int .i64 x ∧ x + 1 = k ∧ Hid (∀ j, 64 * k ≤ j → j < n → f j = false)) (fun v => (intOf v + 1).toNat)
  case atStart => exact ⟨m, (m : Int) - 1, Nat.le_refl _, by go_num, by omega, hz0⟩
  case round =>
    obtain ⟨k, x, hk, rfl, hx, hz⟩ := hrel
    rcases k with _ | q
    · obtain rfl : x = -1 := by omega
      go_wp2
      refine bodyPost_ret (v := .tuple #[.int .u64 0, .bool false]) (by simp [results, Try.results69, go_sem]) rfl ⟨?_, rfl⟩
      rw [lst_nil _ _ (fun j hj => hz.out j (by omega) hj), topV_zero]
    · obtain rfl : x = (q : Int) := by omega
      have cX := HC.out q (by omega)
      have hX := HW.out q
      have tb := HT.out q
      generalize ws.getD q 0 = X at *
      by_cases hX0 : X = 0
      · subst hX0
        have R := zero_word f n q 0 rfl tb (fun j h1 h2 => hz.out j (by omega) h2)
        have HR := Lib.hid R; clear R tb
        go_wp2
        go_round
        case rel => exact ⟨q, (q : Int) - 1, by omega, by go_num, by omega, HR⟩
        case measure => simp [intOf] <;> omega
      · obtain ⟨e1, e2, e3⟩ := lst_word f n q X hX hX0 tb (fun j h1 h2 => hz.out j (by omega) h2)
        have hX1 : ¬ (X : Int) = 0 := by omega
        clear tb
        obtain ⟨B, hB⟩ : ∃ B, Lib.bitLen X = B := ⟨_, rfl⟩
        rw [hB] at e1 e2 e3
        have e4 : lst (f) n ≠ 0 := by omega
        have e5 : lst (f) n - 1 = 64 * q + B - 1 := by omega
        have HB := Lib.hid hB; have E4 := Lib.hid e4; have E5 := Lib.hid e5; clear hB e4 e5 e1
        go_wp2_with (first
          | (go_at_call 75; refine (len64_c X _ hX).mono ?_; rintro e w' ⟨rfl, rfl⟩; rw [HB.out])
          | (go_at_call 63; refine (wordsIndex_c i (by omega) _).mono ?_; rintro e w' ⟨rfl, rfl⟩; rw [HS.out]))
        refine bodyPost_ret (v := .tuple #[.int .u64 (64 * q + B - 1 : Nat), .bool true]) (by simp [results, Try.results69, go_sem] <;> omega) rfl ⟨by rw [topV_pos E4.out, E5.out], rfl⟩

end Go.Proofs.Ytiaghdnhapiioaa

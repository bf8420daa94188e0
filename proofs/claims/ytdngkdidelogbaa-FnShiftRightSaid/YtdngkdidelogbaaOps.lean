/-
  The contracts of Clear, Flip and ClearAll, for sets of at most 20000 bits.
-/
import Derived.Test.YtdngkdidelogbaaBuild
import Derived.Deep.RegionWith
namespace Go.Proofs.Ytdngkdidelogbaa
set_option linter.unusedSimpArgs false
set_option linter.unusedVariables false
open Go.RowKit



theorem WordsOk.allZero {n : Nat} (m : Nat) (hm : m = (n + 63) / 64) : WordsOk (List.replicate m 0) n (fun _ => false) := by
  have := WordsOk.zeros n
  rw [hm]
  exact this.congr fun j _ => by simp [memOf]

set_option maxHeartbeats 1000000 in
theorem clearAll_c (b g n : Nat) (f : Nat → Bool) (w : World) (h : BSet w b g n f) (hn : n ≤ 20000) :
    Calls Try.prog 83 #[.pointer (some ⟨b, 0, none⟩)] w fun e w' => e = .returned (.pointer (some ⟨b, 0, none⟩)) ∧ BSet w' b g n (fun _ => false) ∧ Kept [b, g] w w' := by
  obtain ⟨hne, cap, ws, hh, hr, hw⟩ := h
  have hm := hw.length
  obtain ⟨m, hmm⟩ : ∃ m, ws.length = m := ⟨_, rfl⟩
  rw [hmm] at hh hm
  have hc1 := hh.c1
  have hle := hr.le
  have hnil := fun (wx : World) (a : Addr) (n c : Nat) => Go.run_neq_slice_nil_any (P := Try.prog) wx 64 68 (some a) n c 0 0 Try.underlying64
  simp only [Option.isNone] at hnil
  have hst : Kept [b, g] w w ∧ Hdr w b n g m cap ∧ URow w g (List.replicate 0 0 ++ ws.drop 0) cap := ⟨Kept.refl _ _, hh, by simpa using hr⟩
  have HM := Lib.hid hm; clear hm
  have HMM := Lib.hid hmm
  rw [hmm] at hle
  clear hmm
  have hm313 : m ≤ 313 := by have := HM.out; omega
  go_enter Try.func83, Try.ntmps83
  go_wp2
  go_loopw [18] (fun v wr => ∃ k : Nat, k ≤ m ∧ v = .int .i64 k ∧ Kept [b, g] w wr ∧ Hdr wr b n g m cap ∧ URow wr g (List.replicate k 0 ++ ws.drop k) cap) (fun v _ => m - (intOf v).toNat)
  case atStart => exact ⟨0, Nat.zero_le _, rfl, hst⟩
  case round =>
    obtain ⟨k, hk, rfl, k1, hh1, hr1⟩ := hrel
    by_cases hkm : k < m
    · have hl : k < ws.length := by have := HMM.out; omega
      have c1 := hh1.c1
      have hf := hr1.free k
      have hx := hr1.cell k (by simp; omega)
      have R := hr1.set k 0
      have e : (List.replicate k 0 ++ ws.drop k).set k 0 = List.replicate (k + 1) 0 ++ ws.drop (k + 1) := by
        rw [List.set_append_right _ _ (by simp), List.length_replicate, Nat.sub_self, List.drop_eq_getElem_cons hl, List.set_cons_zero, List.replicate_succ']
        simp
      rw [e] at R
      have k2 := k1.setCell (p := ⟨g, k, none⟩) (by left; simp) (.int .u64 ((0 : Nat) : Int))
      have hh2 := hh1.other (o := k) hne (.int .u64 ((0 : Nat) : Int))
      have HX := Lib.hid e; clear e hr1 hh1
      go_wp2
      go_roundw
      case rel => exact ⟨k + 1, by omega, by go_num, k2, hh2, R⟩
      case measure => simp [intOf]; omega
    · have hkn : k = m := by omega
      subst hkn
      go_wp2
      go_ret
      refine ⟨rfl, ⟨hne, cap, _, ?_, hr1, ?_⟩, k1⟩
      · rw [List.length_append, List.length_replicate, List.length_drop, HMM.out]; simpa using hh1
      · rw [List.drop_of_length_le (by rw [HMM.out]; exact Nat.le_refl _), List.append_nil]
        exact WordsOk.allZero _ HM.out

end Go.Proofs.Ytdngkdidelogbaa

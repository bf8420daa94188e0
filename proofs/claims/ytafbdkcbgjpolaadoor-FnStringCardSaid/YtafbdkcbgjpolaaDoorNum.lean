/-
  laws.number gives a number's decimal digits; the text of a set.
-/
import Derived.Laws.IdiomStrings
import Derived.Lib.ItoaLen
import Derived.Test.YtafbdkcbgjpolaaDoorOwn
namespace Go.Proofs.YtafbdkcbgjpolaaDoor
set_option linter.unusedSimpArgs false
set_option linter.unusedVariables false
set_option maxRecDepth 100000
open Go.RowKit

theorem str_append (a b : List UInt8) : (⟨a.toArray⟩ : ByteArray) ++ ⟨b.toArray⟩ = ⟨(a ++ b).toArray⟩ := by
  apply ByteArray.ext
  simp
theorem digits_le (n : Nat) (h : n < 1000000) : (Lib.decDigits n).length ≤ 20 := by
  rw [Lib.decDigits_length]; exact Lib.nDigits_le20 n (by omega)
theorem u8_toNat (n : Nat) (h : n < 10) : ((UInt8.ofNat (48 + n)).toNat : Int) = 48 + (n : Int) := by
  have h1 : (48 + n) % 2 ^ 8 = 48 + n := Nat.mod_eq_of_lt (by omega)
  rw [UInt8.toNat_ofNat', h1]; omega
set_option maxHeartbeats 1000000 in
theorem number_c (n : Nat) (hn : n < 1000000) (w : World) :
    Calls Tryd.prog 23 #[.int .i64 n] w fun e w' => e = .returned (.string ⟨(Lib.decDigits n).toArray⟩) ∧ Kept [] w w' := by
  induction n using Nat.strongRecOn generalizing w with
  | _ n ih =>
    by_cases h : n < 10
    · have hd : Lib.decDigits n = [UInt8.ofNat (48 + n)] := Lib.decDigits_one h
      have hlt : (n : Int) < 10 := by omega
      have h8 : IntKind.u8.wrap (48 + (n : Int)) = 48 + (n : Int) := by rw [IntKind.wrap_u8]; omega
      have hcv : (convert 61 9 (.slice (some ⟨w.heap.size, 0, none⟩) 1 1)).run Tryd.prog (w.alloc (.cells #[.int .u8 (48 + (n : Int))] 5)) = .ok (.string ⟨#[UInt8.ofNat (48 + n)]⟩) (w.alloc (.cells #[.int .u8 (48 + (n : Int))] 5)) := run_convert_bytes_back (P := Tryd.prog) (w.alloc (.cells #[.int .u8 (48 + (n : Int))] 5)) 61 9 5 ⟨w.heap.size, 0, none⟩ 1 [UInt8.ofNat (48 + n)] Tryd.underlying61 Tryd.underlying5 Tryd.underlying9 (fun j hj => by
        have hj0 : j = 0 := by simpa using hj
        subst hj0
        have e : (⟨w.heap.size, 0, none⟩ : Addr).add 0 = ⟨w.heap.size, 0, none⟩ := rfl
        rw [e, cell_of_heap (heap_alloc_new w _)]
        simp only [List.getElem_cons_zero]
        rw [u8_toNat n h]; rfl)
      obtain ⟨c, hc⟩ : ∃ c, UInt8.ofNat (48 + n) = c := ⟨_, rfl⟩
      rw [hc] at hcv hd
      have HD := Lib.hid hd; clear hd ih hc
      go_enter Tryd.func23, Tryd.ntmps23
      go_wp2_with fail
      go_ret
      exact ⟨by rw [HD.out]; rfl, (Kept.refl _ _).alloc _⟩
    · have hd : Lib.decDigits n = Lib.decDigits (n / 10) ++ Lib.decDigits (n % 10) := by
        rw [Lib.decDigits, dif_neg h, Lib.decDigits_one (Nat.mod_lt _ (by decide))]
      have hge : ¬ (n : Int) < 10 := by omega
      obtain ⟨q, hq⟩ : ∃ q, n / 10 = q := ⟨_, rfl⟩
      obtain ⟨r, hr⟩ : ∃ r, n % 10 = r := ⟨_, rfl⟩
      have e1 : (n : Int).tdiv 10 = (q : Int) := by rw [Int.tdiv_eq_ediv_of_nonneg (by omega)]; omega
      have e2 : (n : Int).tmod 10 = (r : Int) := by rw [Int.tmod_eq_emod_of_nonneg (by omega)]; omega
      have e3 : (n : Int) / 10 = (q : Int) := by omega
      have e4 : (n : Int) % 10 = (r : Int) := by omega
      have i1 := fun w => ih q (by omega) (by omega) w
      have i2 := fun w => ih r (by omega) (by omega) w
      rw [hq, hr] at hd
      have hlen : ¬ 9223372036854775807 < (Lib.decDigits q).length + (Lib.decDigits r).length := by have := digits_le q (by omega); have := digits_le r (by omega); omega
      have HD := Lib.hid hd; have I1 := Lib.hid i1; have I2 := Lib.hid i2; clear hd ih i1 i2 hq hr
      go_enter Tryd.func23, Tryd.ntmps23
      go_wp2_with fail
      refine (I1.out w).mono ?_
      rintro e w1 ⟨rfl, k1⟩
      go_wp2_with fail
      refine (I2.out w1).mono ?_
      rintro e w2 ⟨rfl, k2⟩
      go_wp2_with fail
      go_ret
      exact ⟨by rw [HD.out, str_append]; rfl, k1.trans0 k2⟩

end Go.Proofs.YtafbdkcbgjpolaaDoor

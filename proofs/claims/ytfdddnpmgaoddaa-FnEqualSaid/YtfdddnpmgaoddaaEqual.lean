/-
  Two sets compared, bit by bit and word by word; the contract of Equal, for sets of at most 20000 bits.
-/
import Derived.Test.YtfdddnpmgaoddaaTwo
import Derived.Test.YtfdddnpmgaoddaaPart
namespace Go.Proofs.Ytfdddnpmgaoddaa
set_option linter.unusedSimpArgs false
set_option linter.unusedVariables false
open Go.RowKit


def allB (n : Nat) (p : Nat → Bool) : Bool := (List.range n).all p
theorem allB_zero (p : Nat → Bool) : allB 0 p = true := rfl
theorem allB_succ (n : Nat) (p : Nat → Bool) : allB (n + 1) p = (allB n p && p n) := by simp [allB, List.range_succ, List.all_append]
theorem allB_congr (n : Nat) (p q : Nat → Bool) (h : ∀ j, j < n → p j = q j) : allB n p = allB n q := by
  induction n with
  | zero => rfl
  | succ n ih => rw [allB_succ, allB_succ, ih (fun j hj => h j (by omega)), h n (by omega)]
theorem allB_iff (n : Nat) (p : Nat → Bool) : allB n p = true ↔ ∀ j, j < n → p j = true := by simp [allB]
/-- Words are told by their bits. -/
theorem words_eq {ws zs : List Nat} {n k : Nat} {f1 f2 : Nat → Bool} (h1 : WordsOk ws n f1) (h2 : WordsOk zs n f2) (h : ∀ j, j < n → f1 j = f2 j) : ws.getD k 0 = zs.getD k 0 := by
  refine Nat.eq_of_testBit_eq fun t => ?_
  by_cases ht : t < 64
  · rw [h1.testAt k t ht, h2.testAt k t ht]
    by_cases hj : 64 * k + t < n
    · rw [h _ hj]
    · rw [decide_eq_false hj]; rfl
  · rw [testBit_big (h1.word k) (by omega), testBit_big (h2.word k) (by omega)]
theorem bits_eq {ws zs : List Nat} {n : Nat} {f1 f2 : Nat → Bool} (h1 : WordsOk ws n f1) (h2 : WordsOk zs n f2) (h : ∀ q, q < (n + 63) / 64 → ws.getD q 0 = zs.getD q 0) (j : Nat) (hj : j < n) : f1 j = f2 j := by
  have a := h1.test j
  have b := h2.test j
  rw [h (j / 64) (by omega), b, decide_eq_true hj, Bool.true_and, Bool.true_and] at a
  exact a.symm

set_option maxHeartbeats 2000000 in
theorem equal_c (b1 g1 n1 b2 g2 n2 : Nat) (f1 f2 : Nat → Bool) (w : World) (h1 : BSet w b1 g1 n1 f1) (h2 : BSet w b2 g2 n2 f2) (hn1 : n1 ≤ 20000) (hn2 : n2 ≤ 20000) :
    Calls Try.prog 38 #[.pointer (some ⟨b1, 0, none⟩), .pointer (some ⟨b2, 0, none⟩)] w fun e w' => e = .returned (.bool (decide (n1 = n2) && allB n1 (fun j => f1 j == f2 j))) ∧ Kept [] w w' := by
  have hb1 := h1
  obtain ⟨hne1, cap1, ws, hh1, hr1, hw1⟩ := h1
  obtain ⟨hne2, cap2, zs, hh2, hr2, hw2⟩ := h2
  have c10 := hh1.c0
  have c20 := hh2.c0
  by_cases hnn : n1 = n2
  · subst hnn
    by_cases hz : n1 = 0
    · have hz2 : (n1 : Int) = 0 := by omega
      have hR : (decide (n1 = n1) && allB n1 (fun j => f1 j == f2 j)) = true := by rw [hz]; rfl
      rw [hR]
      have hzd : decide (n1 = 0) = true := decide_eq_true hz
      have HZ := Lib.hid hz; clear hz hR
      go_enter Try.func38, Try.ntmps38
      go_wp2_with fail
      go_quiet (fail)
      go_wp2_with fail
      go_ret
      exact ⟨rfl, (Kept.refl _ _).drewN _⟩
    · have hz2 : ¬ (n1 : Int) = 0 := by omega
      have hzd : decide (n1 = 0) = false := decide_eq_false hz
      rw [show (decide (n1 = n1) && allB n1 (fun j => f1 j == f2 j)) = allB n1 (fun j => f1 j == f2 j) by simp]
      obtain ⟨r, hR⟩ : ∃ r, allB n1 (fun j => f1 j == f2 j) = r := ⟨_, rfl⟩
      rw [hR]
      have HR := Lib.hid hR; clear hR
      have hl1 := hw1.length
      have hl2 := hw2.length
      obtain ⟨m, hm⟩ : ∃ m, (n1 + 63) / 64 = m := ⟨_, rfl⟩
      rw [hm] at hl1 hl2
      rw [hl1] at hh1
      rw [hl2] at hh2
      have hm0 : 1 ≤ m ∧ m ≤ 313 := by omega
      have HL1 := Lib.hid hl1; have HL2 := Lib.hid hl2; have HM := Lib.hid hm
      clear hl1 hl2 hm
      have c1 := hh1.c1
      have c2 := hh2.c1
      have ex := hr1.cell (m - 1) (by rw [HL1.out]; omega)
      have ey := hr2.cell (m - 1) (by rw [HL2.out]; omega)
      have z0 : (0 : Int) ≤ (m : Int) - 1 := by omega
      have z1 : (m : Int) - 1 < (m : Int) := by omega
      have z3 : ((m : Int) - 1).toNat = m - 1 := by omega
      have z4 : IntKind.i64.wrap ((m : Int) - 1) = (m : Int) - 1 := by rw [IntKind.wrap_i64]; omega
      have z5 : decide (m = 0) = false := decide_eq_false (by omega)
      have z6 : ¬ (m : Int) ≤ 0 := by omega
      have z7 : ¬ m = 0 := by omega
      go_enter Try.func38, Try.ntmps38
      go_wp2_with fail
      go_quiet (fail)
      have hbq : BSet (w.drewN nq) b1 g1 n1 f1 := hb1
      have c10 : (w.drewN nq).cell? ⟨b1, 0, none⟩ = _ := c10
      have c1 : (w.drewN nq).cell? ⟨b1, 1, none⟩ = _ := c1
      have c2 : (w.drewN nq).cell? ⟨b2, 1, none⟩ = _ := c2
      have ex : (w.drewN nq).cell? ⟨g1, m - 1, none⟩ = _ := ex
      have ey : (w.drewN nq).cell? ⟨g2, m - 1, none⟩ = _ := ey
      have hr1 : URow (w.drewN nq) g1 ws cap1 := hr1
      have hr2 : URow (w.drewN nq) g2 zs cap2 := hr2
      have kq : Kept [] w (w.drewN nq) := (Kept.refl _ _).drewN nq
      generalize w.drewN nq = W at *
      go_wp2_with fail
      refine (wordCount_c b1 g1 n1 f1 _ hbq (by omega)).mono ?_
      rintro e w' ⟨rfl, rfl⟩
      rw [HM.out]
      go_wp2_with fail
      have hst : Kept [] W W ∧ Hid (∀ q, q < 0 → ws.getD q 0 = zs.getD q 0) := ⟨Kept.refl _ _, fun q h => by omega⟩
      clear ex ey z0 z1 z3 z4
      go_loopw [6] (fun v wr => ∃ k : Nat, k ≤ m ∧ v = .int .i64 k ∧ Kept [] W wr ∧ Hid (∀ q, q < k → ws.getD q 0 = zs.getD q 0)) (fun v _ => m - (intOf v).toNat)
      case atStart => exact ⟨0, Nat.zero_le _, rfl, hst⟩
      case round =>
        obtain ⟨k, hk, rfl, q1, q2⟩ := hrel
        by_cases hkm : k < m
        · have d1 := q1.cell (by simp) c1
          have d2 := q1.cell (by simp) c2
          have cx := (hr1.kept q1 (by simp)).cell k (by rw [HL1.out]; omega)
          have cy := (hr2.kept q1 (by simp)).cell k (by rw [HL2.out]; omega)
          have i0 : (0 : Int) ≤ (k : Int) := by omega
          have i1 : (k : Int) < (m : Int) := by omega
          by_cases he : ws.getD k 0 = zs.getD k 0
          · have q2' : Hid (∀ q, q < k + 1 → ws.getD q 0 = zs.getD q 0) := fun q hq => by
              by_cases h : q = k
              · rw [h]; exact he
              · exact q2.out q (by omega)
            have he2 : ((ws.getD k 0 : Nat) : Int) = ((zs.getD k 0 : Nat) : Int) := by rw [he]
            generalize ws.getD k 0 = X at *
            generalize zs.getD k 0 = Y at *
            subst he
            clear he2
            go_wp2_with fail
            go_quiet (fail)
            go_wp2_with fail
            go_roundw
            case rel => exact ⟨k + 1, by omega, by go_num, q1.drewN _, q2'⟩
            case measure => simp [intOf]; omega
          · have hF : allB n1 (fun j => f1 j == f2 j) = false := by
              cases h : allB n1 (fun j => f1 j == f2 j) with
              | false => rfl
              | true => exact absurd (words_eq hw1 hw2 (fun j hj => by simpa using (allB_iff _ _).1 h j hj)) he
            have HF := Lib.hid hF; clear hF
            have he2 : ¬ ((ws.getD k 0 : Nat) : Int) = ((zs.getD k 0 : Nat) : Int) := by omega
            generalize ws.getD k 0 = X at *
            generalize zs.getD k 0 = Y at *
            go_wp2_with fail
            go_quiet (fail)
            go_wp2_with fail
            go_ret
            exact ⟨by rw [show r = false by rw [← HR.out, HF.out]]; rfl, (kq.trans0 q1).drewN _⟩
        · have hkn : k = m := by omega
          subst hkn
          have hT : allB n1 (fun j => f1 j == f2 j) = true := (allB_iff _ _).2 fun j hj => by
            rw [bits_eq hw1 hw2 (fun q hq => q2.out q (by have := HM.out; omega)) j hj]; simp
          have HT := Lib.hid hT; clear hT
          go_wp2_with fail
          go_ret
          exact ⟨by rw [show r = true by rw [← HR.out, HT.out]]; rfl, kq.trans0 q1⟩
  · have hnn2 : ¬ (n1 : Int) = (n2 : Int) := by omega
    rw [show decide (n1 = n2) = false from decide_eq_false hnn, Bool.false_and]
    go_enter Try.func38, Try.ntmps38
    go_wp2_with fail
    go_quiet (fail)
    go_wp2_with fail
    go_ret
    exact ⟨rfl, (Kept.refl _ _).drewN _⟩

end Go.Proofs.Ytfdddnpmgaoddaa

/-
  The contracts of select64 and Select; for sets of at most 20001 bits.
-/
import Derived.Test.YtpkojfcenhieeaaRank
namespace Go.Proofs.Ytpkojfcenhieeaa
set_option linter.unusedSimpArgs false
set_option linter.unusedVariables false
open Go.RowKit


theorem m_32 : (4294967295 : Nat) = 2 ^ 32 - 1 := by decide
theorem am_32 (x : Nat) (h : x < 2 ^ 64) : bits .and .u64 (x : Int) 4294967295 = ((x &&& 4294967295 : Nat) : Int) := bits_and_nat _ 4294967295 h (by decide)
theorem dd_32 (x : Nat) : (x : Int) / 4294967296 = ((down 32 x : Nat) : Int) := by unfold down; omega
theorem m_16 : (65535 : Nat) = 2 ^ 16 - 1 := by decide
theorem am_16 (x : Nat) (h : x < 2 ^ 64) : bits .and .u64 (x : Int) 65535 = ((x &&& 65535 : Nat) : Int) := bits_and_nat _ 65535 h (by decide)
theorem dd_16 (x : Nat) : (x : Int) / 65536 = ((down 16 x : Nat) : Int) := by unfold down; omega
theorem m_8 : (255 : Nat) = 2 ^ 8 - 1 := by decide
theorem am_8 (x : Nat) (h : x < 2 ^ 64) : bits .and .u64 (x : Int) 255 = ((x &&& 255 : Nat) : Int) := bits_and_nat _ 255 h (by decide)
theorem dd_8 (x : Nat) : (x : Int) / 256 = ((down 8 x : Nat) : Int) := by unfold down; omega
theorem bit_at (W c : Nat) (hW : W < 2 ^ 64) : bits .and .u64 ((W : Int) / 2 ^ c) 1 = ((down c W % 2 : Nat) : Int) := by
  rw [int_down]
  have := bits_and_nat (down c W) 1 (down_lt c W hW) (by decide)
  rw [Nat.and_one_is_mod] at this
  exact this
theorem bit_t (W c : Nat) (hW : W < 2 ^ 64) (h : W.testBit c = true) : bits .and .u64 ((W : Int) / 2 ^ c) 1 = 1 := by
  rw [bit_at W c hW]
  rw [Nat.testBit_eq_decide_div_mod_eq] at h
  have := of_decide_eq_true h
  unfold down; rw [this]; rfl
theorem bit_f (W c : Nat) (hW : W < 2 ^ 64) (h : W.testBit c = false) : bits .and .u64 ((W : Int) / 2 ^ c) 1 = 0 := by
  rw [bit_at W c hW]
  rw [Nat.testBit_eq_decide_div_mod_eq] at h
  have := of_decide_eq_false h
  unfold down; rw [show W / 2 ^ c % 2 = 0 by omega]; rfl
theorem andl_lt (a b : Nat) (h : a < 2 ^ 64) : a &&& b < 2 ^ 64 := Nat.lt_of_le_of_lt Nat.and_le_left h
theorem and_mask_bit (k x t : Nat) : (x &&& (2 ^ k - 1)).testBit t = (decide (t < k) && x.testBit t) := by
  rw [Nat.testBit_and, two_pow_sub_testBit, Bool.and_comm]
theorem sel_cnt (k x M : Nat) (hM : M = 2 ^ k - 1) (hk : k ≤ 64) : pop (x &&& M) = (onL k x.testBit).length := by
  subst hM
  exact pop_part _ k x.testBit hk (fun t ht => and_mask_bit k x t)
theorem sel_same (k x M : Nat) (hM : M = 2 ^ k - 1) : onL k (x &&& M).testBit = onL k x.testBit := by
  subst hM
  exact onL_congr k _ _ (fun j hj => by rw [and_mask_bit, decide_eq_true hj, Bool.true_and])
theorem sel_low (k x M j : Nat) (hM : M = 2 ^ k - 1) (h : j < (onL k x.testBit).length) : (onL (k + k) x.testBit).getD j 0 = (onL k (x &&& M).testBit).getD j 0 := by
  rw [sel_same k x M hM, onL_add, getD_left _ _ _ h]
theorem sel_lowl (k x M j : Nat) (hM : M = 2 ^ k - 1) (h : j < (onL k x.testBit).length) : j < (onL k (x &&& M).testBit).length := by rw [sel_same k x M hM]; exact h
theorem sel_high (k x j : Nat) (h : (onL k x.testBit).length ≤ j) (hj : j < (onL (k + k) x.testBit).length) :
    (onL (k + k) x.testBit).getD j 0 = k + (onL k (down k x).testBit).getD (j - (onL k x.testBit).length) 0 ∧ j - (onL k x.testBit).length < (onL k (down k x).testBit).length := by
  have e : onL k (fun t => x.testBit (k + t)) = onL k (down k x).testBit := onL_congr k _ _ (fun t _ => by rw [testBit_down, Nat.add_comm])
  have hj2 := hj
  rw [onL_len_add, e] at hj2
  have h2 : j - (onL k x.testBit).length < (onL k (down k x).testBit).length := by omega
  refine ⟨?_, h2⟩
  rw [onL_add, getD_right _ _ _ h, e, getD_map_add _ _ _ h2]

set_option maxHeartbeats 4000000 in
theorem select64_c (x j : Nat) (w : World) (hx : x < 2 ^ 64) (hj : j < pop x) :
    Calls Try.prog 30 #[.int .u64 x, .int .u64 j] w fun e w' => e = .returned (.int .u64 ((onL 64 x.testBit).getD j 0 : Nat)) ∧ w' = w := by
  have hl0 : j < (onL (32 + 32) x.testBit).length := hj
  obtain ⟨T, hT⟩ : ∃ T, (onL 64 x.testBit).getD j 0 = T := ⟨_, rfl⟩
  rw [hT]
  have HT := Lib.hid hT; clear hT
  have hw0 := hx
  have jb0 : j ≤ 64 := Nat.le_trans (Nat.le_of_lt hj) (pop_le x)
  have HJ := Lib.hid hj; have HL0 := Lib.hid hl0; clear hj hl0
  have am0 : bits .and .u64 (x : Int) 4294967295 = ((x &&& 4294967295 : Nat) : Int) := am_32 x hw0
  have ac0 := sel_cnt 32 x 4294967295 m_32 (by omega)
  have al0 := andl_lt x 4294967295 hw0
  obtain ⟨n0, hn0⟩ : ∃ n, (onL 32 (x).testBit).length = n := ⟨_, rfl⟩
  have AM0 := Lib.hid am0; have AC0 := Lib.hid ac0; have HN0 := Lib.hid hn0; clear am0 ac0
  have np0 : pop (x &&& 4294967295) = n0 := by rw [AC0.out]; exact hn0
  have NP0 := Lib.hid np0; clear np0
  have nb0 : n0 ≤ 32 := by rw [← hn0]; exact onL_le _ _
  clear hn0
  by_cases hc0 : n0 ≤ j
  · have hh := sel_high 32 x j (by rw [HN0.out]; exact hc0) HL0.out
    rw [HN0.out] at hh
    obtain ⟨hE0, hl1⟩ := hh
    have hw1 := down_lt 32 x hw0
    have dd0 : (x : Int) / 4294967296 = ((down 32 x : Nat) : Int) := dd_32 x
    obtain ⟨w1, hwe1⟩ : ∃ v, down 32 x = v := ⟨_, rfl⟩
    obtain ⟨j1, hje1⟩ : ∃ v, j - n0 = v := ⟨_, rfl⟩
    rw [hwe1] at hE0 hl1 hw1 dd0
    rw [hje1] at hE0 hl1
    have HL1 := Lib.hid hl1; clear hl1
    have HEE := Lib.hid hE0; clear hE0; have hE0 := HEE
    have dj0 : (j : Int) - (n0 : Int) = (j1 : Int) := by omega
    have jb1 : j1 ≤ 64 := by omega
    have HE0 := hE0; have DD0 := Lib.hid dd0; have DJ0 := Lib.hid dj0
    clear hwe1 hje1 hE0 dd0 dj0
    have am1 : bits .and .u64 (w1 : Int) 65535 = ((w1 &&& 65535 : Nat) : Int) := am_16 w1 hw1
    have ac1 := sel_cnt 16 w1 65535 m_16 (by omega)
    have al1 := andl_lt w1 65535 hw1
    obtain ⟨n1, hn1⟩ : ∃ n, (onL 16 (w1).testBit).length = n := ⟨_, rfl⟩
    have AM1 := Lib.hid am1; have AC1 := Lib.hid ac1; have HN1 := Lib.hid hn1; clear am1 ac1
    have np1 : pop (w1 &&& 65535) = n1 := by rw [AC1.out]; exact hn1
    have NP1 := Lib.hid np1; clear np1
    have nb1 : n1 ≤ 16 := by rw [← hn1]; exact onL_le _ _
    clear hn1
    by_cases hc1 : n1 ≤ j1
    · have hh := sel_high 16 w1 j1 (by rw [HN1.out]; exact hc1) HL1.out
      rw [HN1.out] at hh
      obtain ⟨hE1, hl2⟩ := hh
      have hw2 := down_lt 16 w1 hw1
      have dd1 : (w1 : Int) / 65536 = ((down 16 w1 : Nat) : Int) := dd_16 w1
      obtain ⟨w2, hwe2⟩ : ∃ v, down 16 w1 = v := ⟨_, rfl⟩
      obtain ⟨j2, hje2⟩ : ∃ v, j1 - n1 = v := ⟨_, rfl⟩
      rw [hwe2] at hE1 hl2 hw2 dd1
      rw [hje2] at hE1 hl2
      have HL2 := Lib.hid hl2; clear hl2
      have HEE := Lib.hid hE1; clear hE1; have hE1 := HEE
      have dj1 : (j1 : Int) - (n1 : Int) = (j2 : Int) := by omega
      have jb2 : j2 ≤ 64 := by omega
      have HE1 := hE1; have DD1 := Lib.hid dd1; have DJ1 := Lib.hid dj1
      clear hwe2 hje2 hE1 dd1 dj1
      have am2 : bits .and .u64 (w2 : Int) 255 = ((w2 &&& 255 : Nat) : Int) := am_8 w2 hw2
      have ac2 := sel_cnt 8 w2 255 m_8 (by omega)
      have al2 := andl_lt w2 255 hw2
      obtain ⟨n2, hn2⟩ : ∃ n, (onL 8 (w2).testBit).length = n := ⟨_, rfl⟩
      have AM2 := Lib.hid am2; have AC2 := Lib.hid ac2; have HN2 := Lib.hid hn2; clear am2 ac2
      have np2 : pop (w2 &&& 255) = n2 := by rw [AC2.out]; exact hn2
      have NP2 := Lib.hid np2; clear np2
      have nb2 : n2 ≤ 8 := by rw [← hn2]; exact onL_le _ _
      clear hn2
      by_cases hc2 : n2 ≤ j2
      · have hh := sel_high 8 w2 j2 (by rw [HN2.out]; exact hc2) HL2.out
        rw [HN2.out] at hh
        obtain ⟨hE2, hl3⟩ := hh
        have hw3 := down_lt 8 w2 hw2
        have dd2 : (w2 : Int) / 256 = ((down 8 w2 : Nat) : Int) := dd_8 w2
        obtain ⟨w3, hwe3⟩ : ∃ v, down 8 w2 = v := ⟨_, rfl⟩
        obtain ⟨j3, hje3⟩ : ∃ v, j2 - n2 = v := ⟨_, rfl⟩
        rw [hwe3] at hE2 hl3 hw3 dd2
        rw [hje3] at hE2 hl3
        have HL3 := Lib.hid hl3; clear hl3
        have HEE := Lib.hid hE2; clear hE2; have hE2 := HEE
        have dj2 : (j2 : Int) - (n2 : Int) = (j3 : Int) := by omega
        have jb3 : j3 ≤ 64 := by omega
        have HE2 := hE2; have DD2 := Lib.hid dd2; have DJ2 := Lib.hid dj2
        clear hwe3 hje3 hE2 dd2 dj2
        have E : T = 56 + (onL 8 w3.testBit).getD j3 0 := by
          rw [← HT.out]
          have a := HE0.out; have b := HE1.out; have c := HE2.out
          change (onL 64 _).getD _ 0 = _ at a
          change (onL 32 _).getD _ 0 = _ at b
          change (onL 16 _).getD _ 0 = _ at c
          rw [a, b, c]
          (try (clear a b c; generalize (onL 8 w3.testBit).getD j3 0 = V; omega))
        have HE := Lib.hid E; clear E
        go_enter Try.func30, Try.ntmps30
        go_wp2_with fail
        rw [AM0.out]
        refine (onesCount_c _ al0 _).mono ?_
        rintro e w' ⟨rfl, rfl⟩
        rw [NP0.out]
        go_wp2_with fail
        rw [DD0.out]
        rw [DJ0.out]
        rw [AM1.out]
        refine (onesCount_c _ al1 _).mono ?_
        rintro e w' ⟨rfl, rfl⟩
        rw [NP1.out]
        go_wp2_with fail
        rw [DD1.out]
        rw [DJ1.out]
        rw [AM2.out]
        refine (onesCount_c _ al2 _).mono ?_
        rintro e w' ⟨rfl, rfl⟩
        rw [NP2.out]
        go_wp2_with fail
        rw [DD2.out]
        rw [DJ2.out]
        go_loop [9, 1] (fun cv jv => ∃ c q : Nat, c ≤ 8 ∧ cv = .int .i64 c ∧ jv = .int .u64 q ∧ Hid (q + (onL c w3.testBit).length = j3)) (fun cv _ => 8 - (intOf cv).toNat)
        case atStart => exact ⟨0, j3, by omega, rfl, rfl, rfl⟩
        case round =>
          obtain ⟨c, q, hc, rfl, rfl, hq⟩ := hrel
          have hq64 : q ≤ 64 := Nat.le_trans (Nat.le_trans (Nat.le_add_right q _) (Nat.le_of_eq hq.out)) jb3
          by_cases h8 : c < 8
          · cases hb : w3.testBit c with
            | true =>
              have bt := bit_t w3 c hw3 hb
              rcases q with _ | q
              · have hfin : (onL 8 w3.testBit).getD j3 0 = c := by
                  have h := (onL_hit 8 c w3.testBit h8 hb).1
                  have := hq.out
                  rw [Nat.zero_add] at this
                  rw [this] at h; exact h
                have HFIN := Lib.hid hfin; have HB := Lib.hid hb; clear hfin hb
                have hz0 : (IntKind.u64.wrap (IntKind.u64.wrap (-1) + 1) == 0) = true := by decide
                go_wp2_with fail
                refine bodyPost_ret (v := .int .u64 (56 + c : Nat)) (by simp [results, Try.results30, go_sem] <;> omega) rfl ⟨by rw [HE.out, HFIN.out], rfl⟩
              · have R : q + (onL (c + 1) w3.testBit).length = j3 := by
                  have := hq.out
                  rw [onL_yes hb, List.length_append, List.length_singleton, ← this]; omega
                have HR := Lib.hid R; have HB := Lib.hid hb; clear R hb
                have hq0 : ¬ (q : Int) + 1 = 0 := by omega
                go_wp2_with fail
                go_round
                case rel => exact ⟨c + 1, q, by omega, by go_num, by go_num, HR⟩
                case measure => simp [intOf] <;> omega
            | false =>
              have bt := bit_f w3 c hw3 hb
              have R : q + (onL (c + 1) w3.testBit).length = j3 := by rw [onL_no hb]; exact hq.out
              have HR := Lib.hid R; have HB := Lib.hid hb; clear R hb
              have hq0 : ¬ (q : Int) + 1 = 0 := by omega
              go_wp2_with fail
              go_round
              case rel => exact ⟨c + 1, q, by omega, by go_num, by go_num, HR⟩
              case measure => simp [intOf] <;> omega
          · exfalso
            obtain rfl : c = 8 := by omega
            have h1 := HL3.out
            rw [← hq.out] at h1
            exact absurd h1 (Nat.not_lt.2 (Nat.le_add_left _ _))
      · have hh := sel_low 8 w2 255 j2 m_8 (by rw [HN2.out]; omega)
        have hl3 := sel_lowl 8 w2 255 j2 m_8 (by rw [HN2.out]; omega)
        obtain ⟨w3, hwe3⟩ : ∃ v, w2 &&& 255 = v := ⟨_, rfl⟩
        have hw3 := al2
        rw [hwe3] at hh hl3 hw3
        have HL3 := Lib.hid hl3; clear hl3
        have HE2 := Lib.hid hh; have HW2 := Lib.hid hwe3
        clear hwe3 hh
        have E : T = 48 + (onL 8 w3.testBit).getD j2 0 := by
          rw [← HT.out]
          have a := HE0.out; have b := HE1.out; have c := HE2.out
          change (onL 64 _).getD _ 0 = _ at a
          change (onL 32 _).getD _ 0 = _ at b
          change (onL 16 _).getD _ 0 = _ at c
          rw [a, b, c]
          (try (clear a b c; generalize (onL 8 w3.testBit).getD j2 0 = V; omega))
        have HE := Lib.hid E; clear E
        go_enter Try.func30, Try.ntmps30
        go_wp2_with fail
        rw [AM0.out]
        refine (onesCount_c _ al0 _).mono ?_
        rintro e w' ⟨rfl, rfl⟩
        rw [NP0.out]
        go_wp2_with fail
        rw [DD0.out]
        rw [DJ0.out]
        rw [AM1.out]
        refine (onesCount_c _ al1 _).mono ?_
        rintro e w' ⟨rfl, rfl⟩
        rw [NP1.out]
        go_wp2_with fail
        rw [DD1.out]
        rw [DJ1.out]
        rw [AM2.out]
        refine (onesCount_c _ al2 _).mono ?_
        rintro e w' ⟨rfl, rfl⟩
        rw [NP2.out]
        go_wp2_with fail
        rw [HW2.out]
        go_loop [9, 1] (fun cv jv => ∃ c q : Nat, c ≤ 8 ∧ cv = .int .i64 c ∧ jv = .int .u64 q ∧ Hid (q + (onL c w3.testBit).length = j2)) (fun cv _ => 8 - (intOf cv).toNat)
        case atStart => exact ⟨0, j2, by omega, rfl, rfl, rfl⟩
        case round =>
          obtain ⟨c, q, hc, rfl, rfl, hq⟩ := hrel
          have hq64 : q ≤ 64 := Nat.le_trans (Nat.le_trans (Nat.le_add_right q _) (Nat.le_of_eq hq.out)) jb2
          by_cases h8 : c < 8
          · cases hb : w3.testBit c with
            | true =>
              have bt := bit_t w3 c hw3 hb
              rcases q with _ | q
              · have hfin : (onL 8 w3.testBit).getD j2 0 = c := by
                  have h := (onL_hit 8 c w3.testBit h8 hb).1
                  have := hq.out
                  rw [Nat.zero_add] at this
                  rw [this] at h; exact h
                have HFIN := Lib.hid hfin; have HB := Lib.hid hb; clear hfin hb
                have hz0 : (IntKind.u64.wrap (IntKind.u64.wrap (-1) + 1) == 0) = true := by decide
                go_wp2_with fail
                refine bodyPost_ret (v := .int .u64 (48 + c : Nat)) (by simp [results, Try.results30, go_sem] <;> omega) rfl ⟨by rw [HE.out, HFIN.out], rfl⟩
              · have R : q + (onL (c + 1) w3.testBit).length = j2 := by
                  have := hq.out
                  rw [onL_yes hb, List.length_append, List.length_singleton, ← this]; omega
                have HR := Lib.hid R; have HB := Lib.hid hb; clear R hb
                have hq0 : ¬ (q : Int) + 1 = 0 := by omega
                go_wp2_with fail
                go_round
                case rel => exact ⟨c + 1, q, by omega, by go_num, by go_num, HR⟩
                case measure => simp [intOf] <;> omega
            | false =>
              have bt := bit_f w3 c hw3 hb
              have R : q + (onL (c + 1) w3.testBit).length = j2 := by rw [onL_no hb]; exact hq.out
              have HR := Lib.hid R; have HB := Lib.hid hb; clear R hb
              have hq0 : ¬ (q : Int) + 1 = 0 := by omega
              go_wp2_with fail
              go_round
              case rel => exact ⟨c + 1, q, by omega, by go_num, by go_num, HR⟩
              case measure => simp [intOf] <;> omega
          · exfalso
            obtain rfl : c = 8 := by omega
            have h1 := HL3.out
            rw [← hq.out] at h1
            exact absurd h1 (Nat.not_lt.2 (Nat.le_add_left _ _))
    · have hh := sel_low 16 w1 65535 j1 m_16 (by rw [HN1.out]; omega)
      have hl2 := sel_lowl 16 w1 65535 j1 m_16 (by rw [HN1.out]; omega)
      obtain ⟨w2, hwe2⟩ : ∃ v, w1 &&& 65535 = v := ⟨_, rfl⟩
      have hw2 := al1
      rw [hwe2] at hh hl2 hw2
      have HL2 := Lib.hid hl2; clear hl2
      have HE1 := Lib.hid hh; have HW1 := Lib.hid hwe2
      clear hwe2 hh
      have am2 : bits .and .u64 (w2 : Int) 255 = ((w2 &&& 255 : Nat) : Int) := am_8 w2 hw2
      have ac2 := sel_cnt 8 w2 255 m_8 (by omega)
      have al2 := andl_lt w2 255 hw2
      obtain ⟨n2, hn2⟩ : ∃ n, (onL 8 (w2).testBit).length = n := ⟨_, rfl⟩
      have AM2 := Lib.hid am2; have AC2 := Lib.hid ac2; have HN2 := Lib.hid hn2; clear am2 ac2
      have np2 : pop (w2 &&& 255) = n2 := by rw [AC2.out]; exact hn2
      have NP2 := Lib.hid np2; clear np2
      have nb2 : n2 ≤ 8 := by rw [← hn2]; exact onL_le _ _
      clear hn2
      by_cases hc2 : n2 ≤ j1
      · have hh := sel_high 8 w2 j1 (by rw [HN2.out]; exact hc2) HL2.out
        rw [HN2.out] at hh
        obtain ⟨hE2, hl3⟩ := hh
        have hw3 := down_lt 8 w2 hw2
        have dd2 : (w2 : Int) / 256 = ((down 8 w2 : Nat) : Int) := dd_8 w2
        obtain ⟨w3, hwe3⟩ : ∃ v, down 8 w2 = v := ⟨_, rfl⟩
        obtain ⟨j3, hje3⟩ : ∃ v, j1 - n2 = v := ⟨_, rfl⟩
        rw [hwe3] at hE2 hl3 hw3 dd2
        rw [hje3] at hE2 hl3
        have HL3 := Lib.hid hl3; clear hl3
        have HEE := Lib.hid hE2; clear hE2; have hE2 := HEE
        have dj2 : (j1 : Int) - (n2 : Int) = (j3 : Int) := by omega
        have jb3 : j3 ≤ 64 := by omega
        have HE2 := hE2; have DD2 := Lib.hid dd2; have DJ2 := Lib.hid dj2
        clear hwe3 hje3 hE2 dd2 dj2
        have E : T = 40 + (onL 8 w3.testBit).getD j3 0 := by
          rw [← HT.out]
          have a := HE0.out; have b := HE1.out; have c := HE2.out
          change (onL 64 _).getD _ 0 = _ at a
          change (onL 32 _).getD _ 0 = _ at b
          change (onL 16 _).getD _ 0 = _ at c
          rw [a, b, c]
          (try (clear a b c; generalize (onL 8 w3.testBit).getD j3 0 = V; omega))
        have HE := Lib.hid E; clear E
        go_enter Try.func30, Try.ntmps30
        go_wp2_with fail
        rw [AM0.out]
        refine (onesCount_c _ al0 _).mono ?_
        rintro e w' ⟨rfl, rfl⟩
        rw [NP0.out]
        go_wp2_with fail
        rw [DD0.out]
        rw [DJ0.out]
        rw [AM1.out]
        refine (onesCount_c _ al1 _).mono ?_
        rintro e w' ⟨rfl, rfl⟩
        rw [NP1.out]
        go_wp2_with fail
        rw [HW1.out]
        rw [AM2.out]
        refine (onesCount_c _ al2 _).mono ?_
        rintro e w' ⟨rfl, rfl⟩
        rw [NP2.out]
        go_wp2_with fail
        rw [DD2.out]
        rw [DJ2.out]
        go_loop [9, 1] (fun cv jv => ∃ c q : Nat, c ≤ 8 ∧ cv = .int .i64 c ∧ jv = .int .u64 q ∧ Hid (q + (onL c w3.testBit).length = j3)) (fun cv _ => 8 - (intOf cv).toNat)
        case atStart => exact ⟨0, j3, by omega, rfl, rfl, rfl⟩
        case round =>
          obtain ⟨c, q, hc, rfl, rfl, hq⟩ := hrel
          have hq64 : q ≤ 64 := Nat.le_trans (Nat.le_trans (Nat.le_add_right q _) (Nat.le_of_eq hq.out)) jb3
          by_cases h8 : c < 8
          · cases hb : w3.testBit c with
            | true =>
              have bt := bit_t w3 c hw3 hb
              rcases q with _ | q
              · have hfin : (onL 8 w3.testBit).getD j3 0 = c := by
                  have h := (onL_hit 8 c w3.testBit h8 hb).1
                  have := hq.out
                  rw [Nat.zero_add] at this
                  rw [this] at h; exact h
                have HFIN := Lib.hid hfin; have HB := Lib.hid hb; clear hfin hb
                have hz0 : (IntKind.u64.wrap (IntKind.u64.wrap (-1) + 1) == 0) = true := by decide
                go_wp2_with fail
                refine bodyPost_ret (v := .int .u64 (40 + c : Nat)) (by simp [results, Try.results30, go_sem] <;> omega) rfl ⟨by rw [HE.out, HFIN.out], rfl⟩
              · have R : q + (onL (c + 1) w3.testBit).length = j3 := by
                  have := hq.out
                  rw [onL_yes hb, List.length_append, List.length_singleton, ← this]; omega
                have HR := Lib.hid R; have HB := Lib.hid hb; clear R hb
                have hq0 : ¬ (q : Int) + 1 = 0 := by omega
                go_wp2_with fail
                go_round
                case rel => exact ⟨c + 1, q, by omega, by go_num, by go_num, HR⟩
                case measure => simp [intOf] <;> omega
            | false =>
              have bt := bit_f w3 c hw3 hb
              have R : q + (onL (c + 1) w3.testBit).length = j3 := by rw [onL_no hb]; exact hq.out
              have HR := Lib.hid R; have HB := Lib.hid hb; clear R hb
              have hq0 : ¬ (q : Int) + 1 = 0 := by omega
              go_wp2_with fail
              go_round
              case rel => exact ⟨c + 1, q, by omega, by go_num, by go_num, HR⟩
              case measure => simp [intOf] <;> omega
          · exfalso
            obtain rfl : c = 8 := by omega
            have h1 := HL3.out
            rw [← hq.out] at h1
            exact absurd h1 (Nat.not_lt.2 (Nat.le_add_left _ _))
      · have hh := sel_low 8 w2 255 j1 m_8 (by rw [HN2.out]; omega)
        have hl3 := sel_lowl 8 w2 255 j1 m_8 (by rw [HN2.out]; omega)
        obtain ⟨w3, hwe3⟩ : ∃ v, w2 &&& 255 = v := ⟨_, rfl⟩
        have hw3 := al2
        rw [hwe3] at hh hl3 hw3
        have HL3 := Lib.hid hl3; clear hl3
        have HE2 := Lib.hid hh; have HW2 := Lib.hid hwe3
        clear hwe3 hh
        have E : T = 32 + (onL 8 w3.testBit).getD j1 0 := by
          rw [← HT.out]
          have a := HE0.out; have b := HE1.out; have c := HE2.out
          change (onL 64 _).getD _ 0 = _ at a
          change (onL 32 _).getD _ 0 = _ at b
          change (onL 16 _).getD _ 0 = _ at c
          rw [a, b, c]
          (try (clear a b c; generalize (onL 8 w3.testBit).getD j1 0 = V; omega))
        have HE := Lib.hid E; clear E
        go_enter Try.func30, Try.ntmps30
        go_wp2_with fail
        rw [AM0.out]
        refine (onesCount_c _ al0 _).mono ?_
        rintro e w' ⟨rfl, rfl⟩
        rw [NP0.out]
        go_wp2_with fail
        rw [DD0.out]
        rw [DJ0.out]
        rw [AM1.out]
        refine (onesCount_c _ al1 _).mono ?_
        rintro e w' ⟨rfl, rfl⟩
        rw [NP1.out]
        go_wp2_with fail
        rw [HW1.out]
        rw [AM2.out]
        refine (onesCount_c _ al2 _).mono ?_
        rintro e w' ⟨rfl, rfl⟩
        rw [NP2.out]
        go_wp2_with fail
        rw [HW2.out]
        go_loop [9, 1] (fun cv jv => ∃ c q : Nat, c ≤ 8 ∧ cv = .int .i64 c ∧ jv = .int .u64 q ∧ Hid (q + (onL c w3.testBit).length = j1)) (fun cv _ => 8 - (intOf cv).toNat)
        case atStart => exact ⟨0, j1, by omega, rfl, rfl, rfl⟩
        case round =>
          obtain ⟨c, q, hc, rfl, rfl, hq⟩ := hrel
          have hq64 : q ≤ 64 := Nat.le_trans (Nat.le_trans (Nat.le_add_right q _) (Nat.le_of_eq hq.out)) jb1
          by_cases h8 : c < 8
          · cases hb : w3.testBit c with
            | true =>
              have bt := bit_t w3 c hw3 hb
              rcases q with _ | q
              · have hfin : (onL 8 w3.testBit).getD j1 0 = c := by
                  have h := (onL_hit 8 c w3.testBit h8 hb).1
                  have := hq.out
                  rw [Nat.zero_add] at this
                  rw [this] at h; exact h
                have HFIN := Lib.hid hfin; have HB := Lib.hid hb; clear hfin hb
                have hz0 : (IntKind.u64.wrap (IntKind.u64.wrap (-1) + 1) == 0) = true := by decide
                go_wp2_with fail
                refine bodyPost_ret (v := .int .u64 (32 + c : Nat)) (by simp [results, Try.results30, go_sem] <;> omega) rfl ⟨by rw [HE.out, HFIN.out], rfl⟩
              · have R : q + (onL (c + 1) w3.testBit).length = j1 := by
                  have := hq.out
                  rw [onL_yes hb, List.length_append, List.length_singleton, ← this]; omega
                have HR := Lib.hid R; have HB := Lib.hid hb; clear R hb
                have hq0 : ¬ (q : Int) + 1 = 0 := by omega
                go_wp2_with fail
                go_round
                case rel => exact ⟨c + 1, q, by omega, by go_num, by go_num, HR⟩
                case measure => simp [intOf] <;> omega
            | false =>
              have bt := bit_f w3 c hw3 hb
              have R : q + (onL (c + 1) w3.testBit).length = j1 := by rw [onL_no hb]; exact hq.out
              have HR := Lib.hid R; have HB := Lib.hid hb; clear R hb
              have hq0 : ¬ (q : Int) + 1 = 0 := by omega
              go_wp2_with fail
              go_round
              case rel => exact ⟨c + 1, q, by omega, by go_num, by go_num, HR⟩
              case measure => simp [intOf] <;> omega
          · exfalso
            obtain rfl : c = 8 := by omega
            have h1 := HL3.out
            rw [← hq.out] at h1
            exact absurd h1 (Nat.not_lt.2 (Nat.le_add_left _ _))
  · have hh := sel_low 32 x 4294967295 j m_32 (by rw [HN0.out]; omega)
    have hl1 := sel_lowl 32 x 4294967295 j m_32 (by rw [HN0.out]; omega)
    obtain ⟨w1, hwe1⟩ : ∃ v, x &&& 4294967295 = v := ⟨_, rfl⟩
    have hw1 := al0
    rw [hwe1] at hh hl1 hw1
    have HL1 := Lib.hid hl1; clear hl1
    have HE0 := Lib.hid hh; have HW0 := Lib.hid hwe1
    clear hwe1 hh
    have am1 : bits .and .u64 (w1 : Int) 65535 = ((w1 &&& 65535 : Nat) : Int) := am_16 w1 hw1
    have ac1 := sel_cnt 16 w1 65535 m_16 (by omega)
    have al1 := andl_lt w1 65535 hw1
    obtain ⟨n1, hn1⟩ : ∃ n, (onL 16 (w1).testBit).length = n := ⟨_, rfl⟩
    have AM1 := Lib.hid am1; have AC1 := Lib.hid ac1; have HN1 := Lib.hid hn1; clear am1 ac1
    have np1 : pop (w1 &&& 65535) = n1 := by rw [AC1.out]; exact hn1
    have NP1 := Lib.hid np1; clear np1
    have nb1 : n1 ≤ 16 := by rw [← hn1]; exact onL_le _ _
    clear hn1
    by_cases hc1 : n1 ≤ j
    · have hh := sel_high 16 w1 j (by rw [HN1.out]; exact hc1) HL1.out
      rw [HN1.out] at hh
      obtain ⟨hE1, hl2⟩ := hh
      have hw2 := down_lt 16 w1 hw1
      have dd1 : (w1 : Int) / 65536 = ((down 16 w1 : Nat) : Int) := dd_16 w1
      obtain ⟨w2, hwe2⟩ : ∃ v, down 16 w1 = v := ⟨_, rfl⟩
      obtain ⟨j2, hje2⟩ : ∃ v, j - n1 = v := ⟨_, rfl⟩
      rw [hwe2] at hE1 hl2 hw2 dd1
      rw [hje2] at hE1 hl2
      have HL2 := Lib.hid hl2; clear hl2
      have HEE := Lib.hid hE1; clear hE1; have hE1 := HEE
      have dj1 : (j : Int) - (n1 : Int) = (j2 : Int) := by omega
      have jb2 : j2 ≤ 64 := by omega
      have HE1 := hE1; have DD1 := Lib.hid dd1; have DJ1 := Lib.hid dj1
      clear hwe2 hje2 hE1 dd1 dj1
      have am2 : bits .and .u64 (w2 : Int) 255 = ((w2 &&& 255 : Nat) : Int) := am_8 w2 hw2
      have ac2 := sel_cnt 8 w2 255 m_8 (by omega)
      have al2 := andl_lt w2 255 hw2
      obtain ⟨n2, hn2⟩ : ∃ n, (onL 8 (w2).testBit).length = n := ⟨_, rfl⟩
      have AM2 := Lib.hid am2; have AC2 := Lib.hid ac2; have HN2 := Lib.hid hn2; clear am2 ac2
      have np2 : pop (w2 &&& 255) = n2 := by rw [AC2.out]; exact hn2
      have NP2 := Lib.hid np2; clear np2
      have nb2 : n2 ≤ 8 := by rw [← hn2]; exact onL_le _ _
      clear hn2
      by_cases hc2 : n2 ≤ j2
      · have hh := sel_high 8 w2 j2 (by rw [HN2.out]; exact hc2) HL2.out
        rw [HN2.out] at hh
        obtain ⟨hE2, hl3⟩ := hh
        have hw3 := down_lt 8 w2 hw2
        have dd2 : (w2 : Int) / 256 = ((down 8 w2 : Nat) : Int) := dd_8 w2
        obtain ⟨w3, hwe3⟩ : ∃ v, down 8 w2 = v := ⟨_, rfl⟩
        obtain ⟨j3, hje3⟩ : ∃ v, j2 - n2 = v := ⟨_, rfl⟩
        rw [hwe3] at hE2 hl3 hw3 dd2
        rw [hje3] at hE2 hl3
        have HL3 := Lib.hid hl3; clear hl3
        have HEE := Lib.hid hE2; clear hE2; have hE2 := HEE
        have dj2 : (j2 : Int) - (n2 : Int) = (j3 : Int) := by omega
        have jb3 : j3 ≤ 64 := by omega
        have HE2 := hE2; have DD2 := Lib.hid dd2; have DJ2 := Lib.hid dj2
        clear hwe3 hje3 hE2 dd2 dj2
        have E : T = 24 + (onL 8 w3.testBit).getD j3 0 := by
          rw [← HT.out]
          have a := HE0.out; have b := HE1.out; have c := HE2.out
          change (onL 64 _).getD _ 0 = _ at a
          change (onL 32 _).getD _ 0 = _ at b
          change (onL 16 _).getD _ 0 = _ at c
          rw [a, b, c]
          (try (clear a b c; generalize (onL 8 w3.testBit).getD j3 0 = V; omega))
        have HE := Lib.hid E; clear E
        go_enter Try.func30, Try.ntmps30
        go_wp2_with fail
        rw [AM0.out]
        refine (onesCount_c _ al0 _).mono ?_
        rintro e w' ⟨rfl, rfl⟩
        rw [NP0.out]
        go_wp2_with fail
        rw [HW0.out]
        rw [AM1.out]
        refine (onesCount_c _ al1 _).mono ?_
        rintro e w' ⟨rfl, rfl⟩
        rw [NP1.out]
        go_wp2_with fail
        rw [DD1.out]
        rw [DJ1.out]
        rw [AM2.out]
        refine (onesCount_c _ al2 _).mono ?_
        rintro e w' ⟨rfl, rfl⟩
        rw [NP2.out]
        go_wp2_with fail
        rw [DD2.out]
        rw [DJ2.out]
        go_loop [9, 1] (fun cv jv => ∃ c q : Nat, c ≤ 8 ∧ cv = .int .i64 c ∧ jv = .int .u64 q ∧ Hid (q + (onL c w3.testBit).length = j3)) (fun cv _ => 8 - (intOf cv).toNat)
        case atStart => exact ⟨0, j3, by omega, rfl, rfl, rfl⟩
        case round =>
          obtain ⟨c, q, hc, rfl, rfl, hq⟩ := hrel
          have hq64 : q ≤ 64 := Nat.le_trans (Nat.le_trans (Nat.le_add_right q _) (Nat.le_of_eq hq.out)) jb3
          by_cases h8 : c < 8
          · cases hb : w3.testBit c with
            | true =>
              have bt := bit_t w3 c hw3 hb
              rcases q with _ | q
              · have hfin : (onL 8 w3.testBit).getD j3 0 = c := by
                  have h := (onL_hit 8 c w3.testBit h8 hb).1
                  have := hq.out
                  rw [Nat.zero_add] at this
                  rw [this] at h; exact h
                have HFIN := Lib.hid hfin; have HB := Lib.hid hb; clear hfin hb
                have hz0 : (IntKind.u64.wrap (IntKind.u64.wrap (-1) + 1) == 0) = true := by decide
                go_wp2_with fail
                refine bodyPost_ret (v := .int .u64 (24 + c : Nat)) (by simp [results, Try.results30, go_sem] <;> omega) rfl ⟨by rw [HE.out, HFIN.out], rfl⟩
              · have R : q + (onL (c + 1) w3.testBit).length = j3 := by
                  have := hq.out
                  rw [onL_yes hb, List.length_append, List.length_singleton, ← this]; omega
                have HR := Lib.hid R; have HB := Lib.hid hb; clear R hb
                have hq0 : ¬ (q : Int) + 1 = 0 := by omega
                go_wp2_with fail
                go_round
                case rel => exact ⟨c + 1, q, by omega, by go_num, by go_num, HR⟩
                case measure => simp [intOf] <;> omega
            | false =>
              have bt := bit_f w3 c hw3 hb
              have R : q + (onL (c + 1) w3.testBit).length = j3 := by rw [onL_no hb]; exact hq.out
              have HR := Lib.hid R; have HB := Lib.hid hb; clear R hb
              have hq0 : ¬ (q : Int) + 1 = 0 := by omega
              go_wp2_with fail
              go_round
              case rel => exact ⟨c + 1, q, by omega, by go_num, by go_num, HR⟩
              case measure => simp [intOf] <;> omega
          · exfalso
            obtain rfl : c = 8 := by omega
            have h1 := HL3.out
            rw [← hq.out] at h1
            exact absurd h1 (Nat.not_lt.2 (Nat.le_add_left _ _))
      · have hh := sel_low 8 w2 255 j2 m_8 (by rw [HN2.out]; omega)
        have hl3 := sel_lowl 8 w2 255 j2 m_8 (by rw [HN2.out]; omega)
        obtain ⟨w3, hwe3⟩ : ∃ v, w2 &&& 255 = v := ⟨_, rfl⟩
        have hw3 := al2
        rw [hwe3] at hh hl3 hw3
        have HL3 := Lib.hid hl3; clear hl3
        have HE2 := Lib.hid hh; have HW2 := Lib.hid hwe3
        clear hwe3 hh
        have E : T = 16 + (onL 8 w3.testBit).getD j2 0 := by
          rw [← HT.out]
          have a := HE0.out; have b := HE1.out; have c := HE2.out
          change (onL 64 _).getD _ 0 = _ at a
          change (onL 32 _).getD _ 0 = _ at b
          change (onL 16 _).getD _ 0 = _ at c
          rw [a, b, c]
          (try (clear a b c; generalize (onL 8 w3.testBit).getD j2 0 = V; omega))
        have HE := Lib.hid E; clear E
        go_enter Try.func30, Try.ntmps30
        go_wp2_with fail
        rw [AM0.out]
        refine (onesCount_c _ al0 _).mono ?_
        rintro e w' ⟨rfl, rfl⟩
        rw [NP0.out]
        go_wp2_with fail
        rw [HW0.out]
        rw [AM1.out]
        refine (onesCount_c _ al1 _).mono ?_
        rintro e w' ⟨rfl, rfl⟩
        rw [NP1.out]
        go_wp2_with fail
        rw [DD1.out]
        rw [DJ1.out]
        rw [AM2.out]
        refine (onesCount_c _ al2 _).mono ?_
        rintro e w' ⟨rfl, rfl⟩
        rw [NP2.out]
        go_wp2_with fail
        rw [HW2.out]
        go_loop [9, 1] (fun cv jv => ∃ c q : Nat, c ≤ 8 ∧ cv = .int .i64 c ∧ jv = .int .u64 q ∧ Hid (q + (onL c w3.testBit).length = j2)) (fun cv _ => 8 - (intOf cv).toNat)
        case atStart => exact ⟨0, j2, by omega, rfl, rfl, rfl⟩
        case round =>
          obtain ⟨c, q, hc, rfl, rfl, hq⟩ := hrel
          have hq64 : q ≤ 64 := Nat.le_trans (Nat.le_trans (Nat.le_add_right q _) (Nat.le_of_eq hq.out)) jb2
          by_cases h8 : c < 8
          · cases hb : w3.testBit c with
            | true =>
              have bt := bit_t w3 c hw3 hb
              rcases q with _ | q
              · have hfin : (onL 8 w3.testBit).getD j2 0 = c := by
                  have h := (onL_hit 8 c w3.testBit h8 hb).1
                  have := hq.out
                  rw [Nat.zero_add] at this
                  rw [this] at h; exact h
                have HFIN := Lib.hid hfin; have HB := Lib.hid hb; clear hfin hb
                have hz0 : (IntKind.u64.wrap (IntKind.u64.wrap (-1) + 1) == 0) = true := by decide
                go_wp2_with fail
                refine bodyPost_ret (v := .int .u64 (16 + c : Nat)) (by simp [results, Try.results30, go_sem] <;> omega) rfl ⟨by rw [HE.out, HFIN.out], rfl⟩
              · have R : q + (onL (c + 1) w3.testBit).length = j2 := by
                  have := hq.out
                  rw [onL_yes hb, List.length_append, List.length_singleton, ← this]; omega
                have HR := Lib.hid R; have HB := Lib.hid hb; clear R hb
                have hq0 : ¬ (q : Int) + 1 = 0 := by omega
                go_wp2_with fail
                go_round
                case rel => exact ⟨c + 1, q, by omega, by go_num, by go_num, HR⟩
                case measure => simp [intOf] <;> omega
            | false =>
              have bt := bit_f w3 c hw3 hb
              have R : q + (onL (c + 1) w3.testBit).length = j2 := by rw [onL_no hb]; exact hq.out
              have HR := Lib.hid R; have HB := Lib.hid hb; clear R hb
              have hq0 : ¬ (q : Int) + 1 = 0 := by omega
              go_wp2_with fail
              go_round
              case rel => exact ⟨c + 1, q, by omega, by go_num, by go_num, HR⟩
              case measure => simp [intOf] <;> omega
          · exfalso
            obtain rfl : c = 8 := by omega
            have h1 := HL3.out
            rw [← hq.out] at h1
            exact absurd h1 (Nat.not_lt.2 (Nat.le_add_left _ _))
    · have hh := sel_low 16 w1 65535 j m_16 (by rw [HN1.out]; omega)
      have hl2 := sel_lowl 16 w1 65535 j m_16 (by rw [HN1.out]; omega)
      obtain ⟨w2, hwe2⟩ : ∃ v, w1 &&& 65535 = v := ⟨_, rfl⟩
      have hw2 := al1
      rw [hwe2] at hh hl2 hw2
      have HL2 := Lib.hid hl2; clear hl2
      have HE1 := Lib.hid hh; have HW1 := Lib.hid hwe2
      clear hwe2 hh
      have am2 : bits .and .u64 (w2 : Int) 255 = ((w2 &&& 255 : Nat) : Int) := am_8 w2 hw2
      have ac2 := sel_cnt 8 w2 255 m_8 (by omega)
      have al2 := andl_lt w2 255 hw2
      obtain ⟨n2, hn2⟩ : ∃ n, (onL 8 (w2).testBit).length = n := ⟨_, rfl⟩
      have AM2 := Lib.hid am2; have AC2 := Lib.hid ac2; have HN2 := Lib.hid hn2; clear am2 ac2
      have np2 : pop (w2 &&& 255) = n2 := by rw [AC2.out]; exact hn2
      have NP2 := Lib.hid np2; clear np2
      have nb2 : n2 ≤ 8 := by rw [← hn2]; exact onL_le _ _
      clear hn2
      by_cases hc2 : n2 ≤ j
      · have hh := sel_high 8 w2 j (by rw [HN2.out]; exact hc2) HL2.out
        rw [HN2.out] at hh
        obtain ⟨hE2, hl3⟩ := hh
        have hw3 := down_lt 8 w2 hw2
        have dd2 : (w2 : Int) / 256 = ((down 8 w2 : Nat) : Int) := dd_8 w2
        obtain ⟨w3, hwe3⟩ : ∃ v, down 8 w2 = v := ⟨_, rfl⟩
        obtain ⟨j3, hje3⟩ : ∃ v, j - n2 = v := ⟨_, rfl⟩
        rw [hwe3] at hE2 hl3 hw3 dd2
        rw [hje3] at hE2 hl3
        have HL3 := Lib.hid hl3; clear hl3
        have HEE := Lib.hid hE2; clear hE2; have hE2 := HEE
        have dj2 : (j : Int) - (n2 : Int) = (j3 : Int) := by omega
        have jb3 : j3 ≤ 64 := by omega
        have HE2 := hE2; have DD2 := Lib.hid dd2; have DJ2 := Lib.hid dj2
        clear hwe3 hje3 hE2 dd2 dj2
        have E : T = 8 + (onL 8 w3.testBit).getD j3 0 := by
          rw [← HT.out]
          have a := HE0.out; have b := HE1.out; have c := HE2.out
          change (onL 64 _).getD _ 0 = _ at a
          change (onL 32 _).getD _ 0 = _ at b
          change (onL 16 _).getD _ 0 = _ at c
          rw [a, b, c]
          (try (clear a b c; generalize (onL 8 w3.testBit).getD j3 0 = V; omega))
        have HE := Lib.hid E; clear E
        go_enter Try.func30, Try.ntmps30
        go_wp2_with fail
        rw [AM0.out]
        refine (onesCount_c _ al0 _).mono ?_
        rintro e w' ⟨rfl, rfl⟩
        rw [NP0.out]
        go_wp2_with fail
        rw [HW0.out]
        rw [AM1.out]
        refine (onesCount_c _ al1 _).mono ?_
        rintro e w' ⟨rfl, rfl⟩
        rw [NP1.out]
        go_wp2_with fail
        rw [HW1.out]
        rw [AM2.out]
        refine (onesCount_c _ al2 _).mono ?_
        rintro e w' ⟨rfl, rfl⟩
        rw [NP2.out]
        go_wp2_with fail
        rw [DD2.out]
        rw [DJ2.out]
        go_loop [9, 1] (fun cv jv => ∃ c q : Nat, c ≤ 8 ∧ cv = .int .i64 c ∧ jv = .int .u64 q ∧ Hid (q + (onL c w3.testBit).length = j3)) (fun cv _ => 8 - (intOf cv).toNat)
        case atStart => exact ⟨0, j3, by omega, rfl, rfl, rfl⟩
        case round =>
          obtain ⟨c, q, hc, rfl, rfl, hq⟩ := hrel
          have hq64 : q ≤ 64 := Nat.le_trans (Nat.le_trans (Nat.le_add_right q _) (Nat.le_of_eq hq.out)) jb3
          by_cases h8 : c < 8
          · cases hb : w3.testBit c with
            | true =>
              have bt := bit_t w3 c hw3 hb
              rcases q with _ | q
              · have hfin : (onL 8 w3.testBit).getD j3 0 = c := by
                  have h := (onL_hit 8 c w3.testBit h8 hb).1
                  have := hq.out
                  rw [Nat.zero_add] at this
                  rw [this] at h; exact h
                have HFIN := Lib.hid hfin; have HB := Lib.hid hb; clear hfin hb
                have hz0 : (IntKind.u64.wrap (IntKind.u64.wrap (-1) + 1) == 0) = true := by decide
                go_wp2_with fail
                refine bodyPost_ret (v := .int .u64 (8 + c : Nat)) (by simp [results, Try.results30, go_sem] <;> omega) rfl ⟨by rw [HE.out, HFIN.out], rfl⟩
              · have R : q + (onL (c + 1) w3.testBit).length = j3 := by
                  have := hq.out
                  rw [onL_yes hb, List.length_append, List.length_singleton, ← this]; omega
                have HR := Lib.hid R; have HB := Lib.hid hb; clear R hb
                have hq0 : ¬ (q : Int) + 1 = 0 := by omega
                go_wp2_with fail
                go_round
                case rel => exact ⟨c + 1, q, by omega, by go_num, by go_num, HR⟩
                case measure => simp [intOf] <;> omega
            | false =>
              have bt := bit_f w3 c hw3 hb
              have R : q + (onL (c + 1) w3.testBit).length = j3 := by rw [onL_no hb]; exact hq.out
              have HR := Lib.hid R; have HB := Lib.hid hb; clear R hb
              have hq0 : ¬ (q : Int) + 1 = 0 := by omega
              go_wp2_with fail
              go_round
              case rel => exact ⟨c + 1, q, by omega, by go_num, by go_num, HR⟩
              case measure => simp [intOf] <;> omega
          · exfalso
            obtain rfl : c = 8 := by omega
            have h1 := HL3.out
            rw [← hq.out] at h1
            exact absurd h1 (Nat.not_lt.2 (Nat.le_add_left _ _))
      · have hh := sel_low 8 w2 255 j m_8 (by rw [HN2.out]; omega)
        have hl3 := sel_lowl 8 w2 255 j m_8 (by rw [HN2.out]; omega)
        obtain ⟨w3, hwe3⟩ : ∃ v, w2 &&& 255 = v := ⟨_, rfl⟩
        have hw3 := al2
        rw [hwe3] at hh hl3 hw3
        have HL3 := Lib.hid hl3; clear hl3
        have HE2 := Lib.hid hh; have HW2 := Lib.hid hwe3
        clear hwe3 hh
        have E : T = 0 + (onL 8 w3.testBit).getD j 0 := by
          rw [← HT.out]
          have a := HE0.out; have b := HE1.out; have c := HE2.out
          change (onL 64 _).getD _ 0 = _ at a
          change (onL 32 _).getD _ 0 = _ at b
          change (onL 16 _).getD _ 0 = _ at c
          rw [a, b, c]
          (try (clear a b c; generalize (onL 8 w3.testBit).getD j 0 = V; omega))
        have HE := Lib.hid E; clear E
        go_enter Try.func30, Try.ntmps30
        go_wp2_with fail
        rw [AM0.out]
        refine (onesCount_c _ al0 _).mono ?_
        rintro e w' ⟨rfl, rfl⟩
        rw [NP0.out]
        go_wp2_with fail
        rw [HW0.out]
        rw [AM1.out]
        refine (onesCount_c _ al1 _).mono ?_
        rintro e w' ⟨rfl, rfl⟩
        rw [NP1.out]
        go_wp2_with fail
        rw [HW1.out]
        rw [AM2.out]
        refine (onesCount_c _ al2 _).mono ?_
        rintro e w' ⟨rfl, rfl⟩
        rw [NP2.out]
        go_wp2_with fail
        rw [HW2.out]
        go_loop [9, 1] (fun cv jv => ∃ c q : Nat, c ≤ 8 ∧ cv = .int .i64 c ∧ jv = .int .u64 q ∧ Hid (q + (onL c w3.testBit).length = j)) (fun cv _ => 8 - (intOf cv).toNat)
        case atStart => exact ⟨0, j, by omega, rfl, rfl, rfl⟩
        case round =>
          obtain ⟨c, q, hc, rfl, rfl, hq⟩ := hrel
          have hq64 : q ≤ 64 := Nat.le_trans (Nat.le_trans (Nat.le_add_right q _) (Nat.le_of_eq hq.out)) jb0
          by_cases h8 : c < 8
          · cases hb : w3.testBit c with
            | true =>
              have bt := bit_t w3 c hw3 hb
              rcases q with _ | q
              · have hfin : (onL 8 w3.testBit).getD j 0 = c := by
                  have h := (onL_hit 8 c w3.testBit h8 hb).1
                  have := hq.out
                  rw [Nat.zero_add] at this
                  rw [this] at h; exact h
                have HFIN := Lib.hid hfin; have HB := Lib.hid hb; clear hfin hb
                have hz0 : (IntKind.u64.wrap (IntKind.u64.wrap (-1) + 1) == 0) = true := by decide
                go_wp2_with fail
                refine bodyPost_ret (v := .int .u64 (0 + c : Nat)) (by simp [results, Try.results30, go_sem] <;> omega) rfl ⟨by rw [HE.out, HFIN.out], rfl⟩
              · have R : q + (onL (c + 1) w3.testBit).length = j := by
                  have := hq.out
                  rw [onL_yes hb, List.length_append, List.length_singleton, ← this]; omega
                have HR := Lib.hid R; have HB := Lib.hid hb; clear R hb
                have hq0 : ¬ (q : Int) + 1 = 0 := by omega
                go_wp2_with fail
                go_round
                case rel => exact ⟨c + 1, q, by omega, by go_num, by go_num, HR⟩
                case measure => simp [intOf] <;> omega
            | false =>
              have bt := bit_f w3 c hw3 hb
              have R : q + (onL (c + 1) w3.testBit).length = j := by rw [onL_no hb]; exact hq.out
              have HR := Lib.hid R; have HB := Lib.hid hb; clear R hb
              have hq0 : ¬ (q : Int) + 1 = 0 := by omega
              go_wp2_with fail
              go_round
              case rel => exact ⟨c + 1, q, by omega, by go_num, by go_num, HR⟩
              case measure => simp [intOf] <;> omega
          · exfalso
            obtain rfl : c = 8 := by omega
            have h1 := HL3.out
            rw [← hq.out] at h1
            exact absurd h1 (Nat.not_lt.2 (Nat.le_add_left _ _))

end Go.Proofs.Ytpkojfcenhieeaa

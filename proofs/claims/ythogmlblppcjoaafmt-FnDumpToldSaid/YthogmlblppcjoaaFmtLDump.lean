/-
  laws.FnDump: for every input the call returns true, and its argument reads behind the call as it read before. Condition: fmt's text is told (a TOLD card: fmt.Sprintf is a stop, its text is the one that the model's own function of fmt gives). No other condition.
-/
import Derived.Test.YthogmlblppcjoaaFmtDpDump
import Derived.Test.YthogmlblppcjoaaFmtRow
import Derived.Test.YthogmlblppcjoaaFmtAlike
import Derived.ProofKit
import Derived.Stop.JoinedAt
import Derived.Stop.JoinedTold
import Derived.SizedLaws
import Derived.SevenToldRow
import Derived.Test.YthogmlblppcjoaaFmtCards
namespace Go.Proofs.YthogmlblppcjoaaFmt
set_option linter.unusedSimpArgs false
set_option linter.unusedVariables false
open Go.RowKit Go.Extern.Stop Go.Stop Go.Extern

theorem dT_getD (ws : List Nat) (m j i : Nat) (h : i < 65 * j) : (dT ws m j).getD i 0 = if i % 65 = 64 then 46 else sg ((ws.getD (m - 1 - i / 65) 0).testBit (63 - i % 65)) := by
  induction j with
  | zero => omega
  | succ j ih =>
    rw [dT, List.getD_eq_getElem?_getD]
    by_cases e : i < 65 * j
    · rw [List.getElem?_append_left (by rw [dT_length]; exact e), ← List.getD_eq_getElem?_getD]
      exact ih e
    · rw [List.getElem?_append_right (by rw [dT_length]; omega), dT_length]
      have e1 : i / 65 = j := by omega
      have e2 : i - 65 * j = i % 65 := by omega
      rw [e1, e2]
      by_cases e3 : i % 65 = 64
      · rw [if_pos e3, List.getElem?_append_right (by rw [bn_length]; omega), bn_length, e3]
        rfl
      · rw [if_neg e3, List.getElem?_append_left (by rw [bn_length]; omega), ← List.getD_eq_getElem?_getD, bn_getD _ _ _ (by omega)]
/-- The bits that are read behind p signs, from the end. -/
def nO (p : Nat) : Nat := 64 * (p / 65) + (p % 65 - 1)
theorem nO_dot (p : Nat) (h : p % 65 = 0) : nO (p + 1) = nO p := by unfold nO; omega
theorem nO_bit (p : Nat) (h : p % 65 ≠ 0) : nO (p + 1) = nO p + 1 := by unfold nO; omega
theorem nO_end (m : Nat) : nO (65 * m) = 64 * m := by unfold nO; omega
theorem nO_le (p : Nat) : nO p ≤ p := by unfold nO; omega
theorem sign_at (ws : List Nat) (m p q : Nat) (h : p + q + 1 = 65 * m) : (dT ws m m).getD q 0 = if p % 65 = 0 then 46 else sg (wbit ws (nO p)) := by
  rw [dT_getD _ _ _ _ (by omega)]
  have e1 : m - 1 - q / 65 = p / 65 := by omega
  have e2 : q % 65 = 64 - p % 65 := by omega
  by_cases e : p % 65 = 0
  · rw [if_pos (by omega), if_pos e]
  · rw [if_neg (by omega), if_neg e, wbit, e1]
    have e3 : nO p / 64 = p / 65 := by unfold nO; omega
    have e4 : nO p % 64 = 63 - q % 65 := by unfold nO; omega
    rw [e3, e4]
theorem onL_cut (N n : Nat) (f g : Nat → Bool) (h : N ≤ n) (hf : ∀ j, f j = (decide (j < N) && g j)) : onL n f = onL N g := by
  induction n with
  | zero => obtain rfl : N = 0 := by omega
            simp [onL]
  | succ n ih =>
    by_cases e : N = n + 1
    · subst e
      refine List.filter_congr fun j hj => ?_
      rw [hf j, decide_eq_true (List.mem_range.1 hj), Bool.true_and]
    · rw [onL_no (by rw [hf n, decide_eq_false (by omega), Bool.false_and]), ih (by omega)]
theorem ownsRow_keptD {w w' : World} {B e sz n : Nat} {v : Value} {xs : List Value} (h : w.ownsRow B e sz v n xs) (k : Kept [] w w') : w'.ownsRow B e sz v n xs := by
  obtain ⟨h1, h2⟩ := h
  refine ⟨h1, ?_⟩
  rcases h2 with h2 | ⟨g, cap, cur, rfl, hb, hg, r⟩
  · exact .inl h2
  · exact .inr ⟨g, cap, cur, rfl, hb, k.heap (by simp) hg, r⟩
/-- The law's loop: what is read. -/
def DmInv (w wr : World) (p : Nat) (ws : List Nat) (v : Value) : Prop :=
  Kept [] w wr ∧ w.heap.size ≤ wr.heap.size ∧ wr.ownsRow w.heap.size 3 1 v (onL (nO p) (wbit ws)).length (intsOf (onL (nO p) (wbit ws)))

set_option maxHeartbeats 1000000 in
set_option linter.unusedVariables false in
theorem fnDump_bad (L : Int) (v : Value) (zs : List Int) (w : World) (hv : IntsZ w v zs) (hlen : zs.length ≤ 9223372036854775807) (hL : -9223372036854775808 ≤ L) (hL2 : L ≤ 9223372036854775807) (hb : ¬ (Good L zs)) :
    Calls Tryf.prog 3 #[.agg #[.int .i64 L, v]] w fun e w' => e = .returned (.bool true) ∧ Kept [] w w' := by
  have k0 : Kept [] w (w.alloc (.cells #[.int .i64 L, v] 24)) := (Kept.refl _ _).alloc _
  have g0 : (w.alloc (.cells #[.int .i64 L, v] 24)).heap[w.heap.size]? = some (.cells #[.int .i64 L, v] 24 (0, 0)) := heap_alloc_new w _
  obtain ⟨ad, m, cap, rfl⟩ : ∃ ad m cap, v = .slice ad m cap := by
    rcases hv with ⟨ad, cap, h3, h4⟩ | ⟨b, off, cap, h3, _, _⟩ <;> exact ⟨_, _, _, h3⟩
  by_cases hm : m ≤ 2147483647
  · have hd : decide (m ≤ 2147483647) = true := by simpa using hm
    by_cases hg : Good L zs
    · exact absurd hg hb
    · clear hb
      go_enter Tryf.func3, Tryf.ntmps3
      go_wp2_with fail
      refine (zz_c L ad m cap _).mono ?_
      rintro e w1 ⟨rfl, k1⟩
      have c0 : w1.cell? ⟨w.heap.size, 0, none⟩ = some (.int .i64 L) := (cell_of_heap (k1.heap (by simp) g0)).trans rfl
      have c1 : w1.cell? ⟨w.heap.size, 1, none⟩ = some (.slice ad m cap) := (cell_of_heap (k1.heap (by simp) g0)).trans rfl
      rw [hd]
      go_wp2_with fail
      refine (setBad_c L _ zs _ (hv.kept (k0.trans0 k1)) hg hlen hL hL2).mono ?_
      rintro e w2 ⟨rfl, k2⟩
      go_wp2_with fail
      go_ret
      exact ⟨rfl, (((k0.trans0 k1).trans0 k2).alloc _)⟩
  · have hd : decide (m ≤ 2147483647) = false := by simpa using hm
    clear hb
    go_enter Tryf.func3, Tryf.ntmps3
    go_wp2_with fail
    refine (zz_c L ad m cap _).mono ?_
    rintro e w1 ⟨rfl, k1⟩
    rw [hd]
    go_wp2_with fail
    go_ret
    exact ⟨rfl, k0.trans0 k1⟩

set_option maxHeartbeats 4000000 in
set_option linter.unusedVariables false in
theorem fnDump_good (F : Interp) (HT : Tells F) (L : Nat) (v : Value) (on : List Nat) (w : World) (hF : F.answers w.tape) (hv : IntsAt w v on) (hL : L ≤ 2000) (hlen : on.length ≤ 400) (hon : ∀ x ∈ on, x < 2500) :
    Calls Tryf.prog 3 #[.agg #[.int .i64 L, v]] w fun e w' => e = .returned (.bool true) ∧ Kept [] w w' := by
  have k0 : Kept [] w (w.alloc (.cells #[.int .i64 L, v] 24)) := (Kept.refl _ _).alloc _
  have g0 : (w.alloc (.cells #[.int .i64 L, v] 24)).heap[w.heap.size]? = some (.cells #[.int .i64 L, v] 24 (0, 0)) := heap_alloc_new w _
  obtain ⟨ad, cap, rfl⟩ := hv.shape
  have hd : decide (on.length ≤ 2147483647) = true := by simp; omega
  have hln := lenOf_le L on 2500 (by omega) hon
  go_enter Tryf.func3, Tryf.ntmps3
  go_wp2_with fail
  refine (zz_c L ad on.length cap _).mono ?_
  rintro e w1 ⟨rfl, k1⟩
  have h1 := k1.heap (by simp) g0
  have c0 : w1.cell? ⟨w.heap.size, 0, none⟩ = some (.int .i64 L) := (cell_of_heap h1).trans rfl
  have c1 : w1.cell? ⟨w.heap.size, 1, none⟩ = some (.slice ad on.length cap) := (cell_of_heap h1).trans rfl
  rw [hd]
  go_wp2_with fail
  refine (setGood_c L _ on _ (hv.kept (k0.trans0 k1)) hL hlen hon).mono ?_
  rintro e w2 ⟨s, rfl, hs, k2⟩
  obtain ⟨b, c, rfl⟩ := hs.shape
  have hlt2 := lt_of_heap (k2.heap (by simp) h1)
  clear c0 c1
  have h2a := k2.heap (by simp) h1
  have d0 : w2.cell? ⟨w.heap.size, 0, none⟩ = some (.int .i64 L) := (cell_of_heap h2a).trans rfl
  have d1 : w2.cell? ⟨w.heap.size, 1, none⟩ = some (.slice ad on.length cap) := (cell_of_heap h2a).trans rfl
  go_wp2_with fail
  have hs5 := hs.kept ((Kept.refl _ _).alloc (.cells #[.slice (some ⟨b, 0, none⟩) (lenOf L on) c, .bool true] 28))
  have k3 : Kept [] w2 (w2.alloc (.cells #[.slice (some ⟨b, 0, none⟩) (lenOf L on) c, .bool true] 28)) := (Kept.refl _ _).alloc _
  have gA := k3.heap (by simp) (k2.heap (by simp) h1)
  have gB := heap_alloc_new w2 (.cells #[.slice (some ⟨b, 0, none⟩) (lenOf L on) c, .bool true] 28)
  have hv5 := hv.kept (((k0.trans0 k1).trans0 k2).trans0 k3)
  have kW := ((k0.trans0 k1).trans0 k2).trans0 k3
  clear k3 hs k1 k2 h1 g0 k0 d0 d1 h2a
  obtain ⟨N, hN⟩ : ∃ N, lenOf L on = N := ⟨_, rfl⟩
  (try rw [hN] at hs5); (try rw [hN] at gB); (try rw [hN] at gA); (try rw [hN] at hln); (try rw [hN] at kW); (try rw [hN] at hv5)
  rw [hN]
  have HN := Lib.hid hN; clear hN
  generalize (w2.alloc (.cells #[.slice (some ⟨b, 0, none⟩) N c, .bool true] 28)) = W at *
  have A0 : ∀ w', Kept [] W w' → w'.cell? ⟨w.heap.size, 0, none⟩ = some (.int .i64 L) := fun w' k => (cell_of_heap (k.heap (by simp) gA)).trans rfl
  have A1 : ∀ w', Kept [] W w' → w'.cell? ⟨w.heap.size, 1, none⟩ = some (.slice ad on.length cap) := fun w' k => (cell_of_heap (k.heap (by simp) gA)).trans rfl
  have B0 : ∀ w', Kept [] W w' → w'.cell? ⟨w2.heap.size, 0, none⟩ = some (.slice (some ⟨b, 0, none⟩) N c) := fun w' k => (cell_of_heap (k.heap (by simp) gB)).trans rfl
  have B1 : ∀ w', Kept [] W w' → w'.cell? ⟨w2.heap.size, 1, none⟩ = some (.bool true) := fun w' k => (cell_of_heap (k.heap (by simp) gB)).trans rfl
  have hNb : N ≤ 2500 := hln
  clear A0 A1
  obtain ⟨i0, hi, hz0, hz1, hz2⟩ := info_parts Tryf.info3
  refine (implDump_c F HT L _ on _ (by rw [kW.tape]; exact hF) hv5 (by omega) (by omega) (fun x hx => by have := hon x hx; omega)).mono ?_
  rintro e w7 ⟨ws, hw, rfl, k7⟩
  rw [HN.out] at hw
  obtain ⟨m, hm⟩ : ∃ m, ws.length = m := ⟨_, rfl⟩
  have hm1 : N ≤ 64 * m := by have := hw.length; omega
  have hm2 : m ≤ 40 := by have := hw.length; omega
  rw [hm]
  have hsg := fun p q h => sign_at ws m p q h
  have hdl := dT_length ws m m
  obtain ⟨T, hT⟩ : ∃ T, dT ws m m = T := ⟨_, rfl⟩
  rw [hT] at hsg hdl ⊢
  have hsz : (⟨T.toArray⟩ : ByteArray).size = 65 * m := by rw [← hdl]; simp [ByteArray.size]
  have hix : ∀ (q : Nat) (c : UInt8) (W : World), q < 65 * m → T.getD q 0 = c → (Instr.index 9 (.string ⟨T.toArray⟩) (.int .i64 (q : Int))).run Tryf.prog W = .ok (.int .u8 (c.toNat : Int)) W := by
    intro q c W hq hc
    rw [run_index_string W 9 _ _ _ Tryf.underlying9, dif_pos ⟨by omega, by rw [hsz]; omega⟩]
    have hql : q < T.length := by omega
    rw [List.getD_eq_getElem?_getD, List.getElem?_eq_getElem hql] at hc
    simp only [Option.getD_some] at hc
    subst hc
    rfl
  obtain ⟨SS, hSS⟩ : ∃ SS : ByteArray, (⟨T.toArray⟩ : ByteArray) = SS := ⟨_, rfl⟩
  rw [hSS] at hsz hix ⊢
  have hst : DmInv w7 (w7.alloc (.cells #[] 3)) 0 ws (.slice (some ⟨w7.heap.size, 0, none⟩) 0 0) := by
    refine ⟨(Kept.refl _ _).alloc _, by simp, ?_⟩
    have := World.ownsRow_made w7 (base := w7.heap.size) (e := 3) (size := 1) #[] 0 (by simp) (by unfold maxLen; omega) rfl
    simpa [onL, intsOf, nO] using this
  have HW := Lib.hid hw; have HS := Lib.hid hsg; have HIX := Lib.hid hix; have HSS := Lib.hid hSS
  clear hw hm hdl hT hsg hix hSS
  go_wp2_with fail
  go_loopw [6, 7, 8] (fun v n i wr => ∃ k : Nat, k ≤ 65 * m ∧ i = .int .i64 ((k : Int) - 1) ∧ n = .int .i64 (nO (65 * m - k) : Nat) ∧ DmInv w7 wr (65 * m - k) ws v) (fun _ _ i _ => (intOf i + 1).toNat)
  case atStart => exact ⟨65 * m, Nat.le_refl _, by go_num, by rw [Nat.sub_self]; rfl, by rw [Nat.sub_self]; exact hst⟩
  case round =>
    obtain ⟨k, hk, rfl, rfl, hinv⟩ := hrel
    obtain ⟨kr, hsr, hown⟩ := hinv
    have kall := k7.trans0 kr
    rcases k with _ | q
    · have h1 : ¬ ((0 : Int) ≤ (0 : Int) - 1) := by omega
      rw [Nat.sub_zero, nO_end] at hown ⊢
      rw [onL_cut N (64 * m) (wbit ws) (memOf on) hm1 HW.out.bit] at hown
      have hvi := IntsAt.of_owns hown
      obtain ⟨ad8, cp8, rfl⟩ := hvi.shape
      have hll := onL_le N (memOf on)
      have B0r := B0 wr kall
      have B1r := B1 wr kall
      obtain ⟨C, hC⟩ : ∃ C, 64 * m = C := ⟨_, rfl⟩
      rw [hC]
      have hNC : N ≤ C := by omega
      have hC2 : C ≤ 2560 := by omega
      have hge : decide ((N : Int) ≤ (C : Int)) = true := by simp; omega
      clear hC hown
      go_wp2_with fail
      refine (on_c _ N (memOf on) true _ (hs5.kept kall) (by omega)).mono ?_
      rintro e w8 ⟨v8, rfl, hown8, k8⟩
      have hv8 := IntsAt.of_owns hown8
      have B0s := B0 w8 (kall.trans0 k8)
      clear B0r B1r hown8
      go_wp2_with fail
      refine (same_c _ _ (onL N (memOf on)) _ (hvi.kept k8) hv8 (by omega)).mono ?_
      rintro e w9 ⟨rfl, rfl⟩
      go_wp2_with fail
      go_ret
      exact ⟨rfl, (kW.trans0 kall).trans0 k8⟩
    · have e1 : ((q + 1 : Nat) : Int) - 1 = (q : Int) := by omega
      rw [e1]
      have hqm : q < 65 * m := by omega
      obtain ⟨p, hp⟩ : ∃ p, 65 * m - (q + 1) = p := ⟨_, rfl⟩
      have hp1 : 65 * m - q = p + 1 := by omega
      rw [hp] at hown ⊢
      have hpq : p + q + 1 = 65 * m := by omega
      have hsq := HS.out p q hpq
      have hnl := nO_le p
      have hol := onL_le (nO p) (wbit ws)
      have hp3 : nO p ≤ 3000 := by omega
      by_cases hdot : p % 65 = 0
      · rw [if_pos hdot] at hsq
        have hx := fun W => HIX.out q 46 W hqm hsq
        have hn1 := nO_dot p hdot
        obtain ⟨nn, hnn⟩ : ∃ nn, nO p = nn := ⟨_, rfl⟩
        have R : DmInv w7 wr (p + 1) ws u6 := ⟨kr, hsr, by rw [hn1]; exact hown⟩
        rw [hnn] at hn1 hp3 ⊢
        have HN1 := Lib.hid hn1
        clear hnn hown hn1 hsq hnl hol
        go_wp2_with fail
        go_roundw
        case rel => exact ⟨q, by omega, by go_num, by rw [hp1, HN1.out], by rw [hp1]; exact R⟩
        case measure => simp [intOf] <;> omega
      · rw [if_neg hdot] at hsq
        have hn1 := nO_bit p hdot
        obtain ⟨nn, hnn⟩ : ∃ nn, nO p = nn := ⟨_, rfl⟩
        rw [hnn] at hn1 hp3 hown hol hsq ⊢
        cases hb : wbit ws nn with
        | false =>
          rw [hb] at hsq
          have hx := fun W => HIX.out q 48 W hqm hsq
          have R : DmInv w7 wr (p + 1) ws u6 := ⟨kr, hsr, by rw [hn1, onL_no hb]; exact hown⟩
          have HN1 := Lib.hid hn1
          clear hnn hown hn1 hsq hnl hol
          go_wp2_with fail
          go_roundw
          case rel => exact ⟨q, by omega, by go_num, by rw [hp1, HN1.out]; go_num, by rw [hp1]; exact R⟩
          case measure => simp [intOf] <;> omega
        | true =>
          rw [hb] at hsq
          have hx := fun W => HIX.out q 49 W hqm hsq
          have HN1 := Lib.hid hn1
          clear hn1 hsq hnl
          go_wp2_with (at_builtin; refine wpList_append_own _ rfl _ _ 22 rfl w7.heap.size 3 i0 (.int .i64 0) 1 8 Tryf.underlying22 hi hz0 hz1 hz2 rfl (by decide) _ _ _ rfl (World.ownsRow.alloc hown _) ⟨wr.heap.size, 0, none⟩ 1 1 [.int .i64 nn] rfl rfl ?c1 ?c2 ?c3 ?c4 ?c5 ?_)
          case c1 => exact cell_one_new _ _ _
          case c2 => intro u hu; simp at hu; subst hu; rfl
          case c3 => unfold maxLen; omega
          case c4 => omega
          case c5 => simp; omega
          intro v' w1 hown' hgrow _
          have R : DmInv w7 w1 (p + 1) ws v' := by
            refine ⟨(kr.alloc _).grown hgrow (fun j hj => by have := (hown.lt j hj).1; right; omega), by have := hgrow.size; simp at this; omega, ?_⟩
            rw [HN1.out, onL_yes hb]
            have e : intsOf (onL nn (wbit ws) ++ [nn]) = intsOf (onL nn (wbit ws)) ++ [.int .i64 nn] := by simp [intsOf]
            rw [e, List.length_append]; exact hown'
          clear hown' hgrow hown
          go_wp2_with fail
          go_roundw
          case rel => exact ⟨q, by omega, by go_num, by rw [hp1, HN1.out]; go_num, by rw [hp1]; exact R⟩
          case measure => simp [intOf] <;> omega


theorem fnDump_c (F : Interp) (HT : Tells F) (L : Int) (v : Value) (zs : List Int) (w : World) (hF : F.answers w.tape) (hv : IntsZ w v zs) (hlen : zs.length ≤ 9223372036854775807) (hL : -9223372036854775808 ≤ L) (hL2 : L ≤ 9223372036854775807) :
    Calls Tryf.prog 3 #[.agg #[.int .i64 L, v]] w fun e w' => e = .returned (.bool true) ∧ Kept [] w w' := by
  by_cases hg : Good L zs
  · have hg0 := hg
    have hg1 := hg
    obtain ⟨Ln, on, rfl, q1, q2, q3, q4⟩ := hv.good hg1
    exact fnDump_good F HT Ln v on w hF q4 q1 q2 q3
  · exact fnDump_bad L v zs w hv hlen hL hL2 hg

open Go.ChangeShapes Go.WideShapes Go.ChangeAt Go.Kit
set_option maxRecDepth 100000 in
theorem fnDump_lifted (os : Os) (started : os.Started) (H : Type) (enc : TypeId × Value → H) :
    ReturnsInTold none {} Tryf.checked os 3 .any Input.okWide ((OpenSpec.ofChange Rows.fnDumpSpec).preRow enc Tryf.prog Tryf.f3 [] false []) (fun F => ((OpenSpec.ofChange Rows.fnDumpSpec).at F).post enc Tryf.prog Tryf.f3 false true false false) (aloneAtReturn Tryf.prog) nothingAlways := by
  refine returnsInTold_of_row (C := Tryf.checked) (s := OpenSpec.ofChange Rows.fnDumpSpec) (by kernel_rfl) Tryf.own started (by kernel_rfl) Tryf.func3
    (OpenSpec.witness_stopped (enc := enc) (C := Tryf.checked) false ⟨#[], #[.agg #[.int .i64 0, .slice none 0 0]], []⟩ 8 (by kernel_rfl) (by kernel_rfl) (by kernel_rfl) (by kernel_rfl)) ?_
  intro F W base args ds gs before _ hF hval0 hW _ _ _ _ _
  have hval : ∀ (j : Nat) t v, Tryf.f3.params[j]? = some t → args[j]? = some v → Value.okWide Tryf.prog W .any base t v := hval0
  have hW' := hW
  obtain ⟨p0, q, hA0, hV, rfl, _, _⟩ := hW
  have hA : DataW.TrodAll enc Tryf.prog W 0 (fun _ => true) true Tryf.f3.params.toList args.toList ds p0 := hA0
  rw [Tryf.params3] at hA hval
  obtain ⟨v0, d0, rfl, rfl, h0⟩ := trodAll_one hA
  clear hA
  obtain ⟨rfl, rfl⟩ := trodVars_none hV
  obtain ⟨L0, s0, zs0, rfl, hz0, hlen0, hL0, hR0⟩ := bits_read (hval 0 24 v0 rfl rfl) h0
  clear hA0 hval0
  simp only [List.append_nil] at hW'
  have hlt0 : ∀ x ∈ p0, x.block < W.heap.size := fun x hx => by simpa using hW'.lt x (by simp [hx])
  refine (fnDump_c F.told (fun x hx => w_told F x hx) L0 s0 zs0 W hF hz0 hlen0 hL0 hR0).mono fun e W' ⟨he, hk⟩ => ?_
  subst he
  have hb := hk.below
  refine ⟨_, rfl, _, _, _, [], p0, [], hW', ?_, ?_, rfl, hb.frame _, fun h => by cases h⟩
  · exact trodAll_mk1 (shut_bool Tryf.underlying4 true)
  · exact trodAll_mk1 (Below.trod Tryf.laidOut (by kernel_rfl) (of_decide_eq_true (by kernel_rfl)) h0 hb hlt0)

theorem Tryf.stops : Tryf.pinned.checked.prog.stops = ["fmt.Sprintf"] := by kernel_rfl
theorem Tryf.stopKnobs : Tryf.pinned.checked.prog.stopKnobs = [] := by kernel_rfl
theorem Tryf.quiet (os : Os) : Stop.quiet Tryf.pinned.checked.prog os := by
  intro k hk
  rw [Tryf.stopKnobs] at hk
  cases hk

theorem fnDumpTold_holds : Rows.FnDumpToldSaid :=
  Claim7.holds_of_told_any 3 Tryf.f3 "fmt.Sprintf" [] [] _ _ _ (by kernel_rfl) rfl rfl rfl Tryf.laidOut (by kernel_rfl) rfl ⟨rfl, rfl, rfl, rfl, rfl, rfl, rfl⟩ rfl rfl (by kernel_rfl) (by kernel_rfl) Tryf.func3 (by kernel_rfl)
    (of_decide_eq_true (by kernel_rfl)) (by unfold Func.isWrapper; first | (rw [if_pos (by decide +kernel)]; kernel_rfl) | (rw [if_neg (by decide +kernel)]; exact ⟨rfl, rfl⟩)) Tryf.stops.symm rfl Tryf.stopKnobs.symm (by kernel_rfl)
    (by kernel_rfl) (by kernel_rfl) (by kernel_rfl) (by kernel_rfl) (by kernel_rfl) (by kernel_rfl) (by kernel_rfl) (by kernel_rfl) (by kernel_rfl) rfl (by kernel_rfl) rfl rfl
    rfl rfl
    rfl (by kernel_rfl) (by kernel_rfl) (by kernel_rfl) (by decide) (by kernel_rfl)
    (OpenClaim.moreEntering_of (by kernel_rfl) (by kernel_rfl) (by kernel_rfl) (by kernel_rfl) (by kernel_rfl) (by kernel_rfl) (by kernel_rfl) (by kernel_rfl) (by kernel_rfl) (by kernel_rfl))
    ⟨_, WideRow.started_initial, Tryf.quiet _⟩
    (fun os started _ H enc _ => fnDump_lifted os started H enc)

end Go.Proofs.YthogmlblppcjoaaFmt

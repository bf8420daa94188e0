/-
  laws.FnNextMany: for every input; the table of TrailingZeros64 is laid, tied to the program's text.
-/
import Derived.SevenTiedAt
import Derived.Maps.AppendAt
import Derived.Test.YtafbdkcbgjpolaaDoorIMany
import Derived.Test.YtafbdkcbgjpolaaDoorLaid
import Derived.Test.YtafbdkcbgjpolaaDoorOwn
namespace Go.Proofs.YtafbdkcbgjpolaaDoor
set_option linter.unusedSimpArgs false
set_option linter.unusedVariables false
set_option maxRecDepth 100000
open Go.RowKit

theorem u8_of {x : Int} (h : (Lit.int .u8 x).wf = true) : ∃ n : Nat, x = n ∧ n ≤ 255 := by
  have h1 : 0 ≤ x ∧ x ≤ 255 := by
    have := h
    simp [Lit.wf] at this
    have a : IntKind.u8.min = 0 := by decide
    have b : IntKind.u8.max = 255 := by decide
    omega
  exact ⟨x.toNat, by omega, by omega⟩
theorem IntsAt.at_ {w : World} {ad : Option Addr} {n cap : Nat} {l : List Nat} (h : IntsAt w (.slice ad n cap) l) (k : Nat) (hk : k < l.length) : ∃ b off, ad = some ⟨b, off, none⟩ ∧ w.cell? ⟨b, off + k, none⟩ = some (.int .i64 (l.getD k 0 : Nat)) := by
  rcases h with ⟨_, _, _, rfl⟩ | ⟨b, off, c, h1, h2⟩
  · exact absurd hk (Nat.not_lt_zero _)
  · simp only [Value.slice.injEq] at h1
    exact ⟨b, off, h1.1, h2 k hk⟩
/-- The entries from i on, of the first k; at most M. -/
def ge (i : Nat) (l : List Nat) (k M : Nat) : List Nat := ((l.take k).filter (fun x => decide (i ≤ x))).take M
theorem ge_le (i : Nat) (l : List Nat) (k M : Nat) : (ge i l k M).length ≤ M := List.length_take_le _ _
theorem ge_yes {i k M : Nat} {l : List Nat} (hk : k < l.length) (h : i ≤ l.getD k 0) (hl : (ge i l k M).length < M) : ge i l (k + 1) M = ge i l k M ++ [l.getD k 0] := by
  have e : (l.take (k + 1)).filter (fun x => decide (i ≤ x)) = (l.take k).filter (fun x => decide (i ≤ x)) ++ [l.getD k 0] := by
    rw [getD_in _ _ _ hk] at *
    rw [List.take_succ_eq_append_getElem hk, List.filter_append, List.filter_cons_of_pos (by simpa using h), List.filter_nil]
  unfold ge at *
  rw [e]
  generalize (l.take k).filter (fun x => decide (i ≤ x)) = A at *
  rw [List.length_take] at hl
  have h1 : (A ++ [l.getD k 0]).length ≤ M := by rw [List.length_append, List.length_singleton]; omega
  have h2 : A.length ≤ M := by omega
  rw [List.take_of_length_le h1, List.take_of_length_le h2]
theorem ge_full {i k M : Nat} {l : List Nat} (hk : k < l.length) (hl : ¬ (ge i l k M).length < M) : ge i l (k + 1) M = ge i l k M := by
  unfold ge at *
  rw [List.length_take] at hl
  rw [List.take_succ_eq_append_getElem hk, List.filter_append, List.take_append_of_le_length (by omega)]
theorem ge_no {i k M : Nat} {l : List Nat} (hk : k < l.length) (h : ¬ i ≤ l.getD k 0) : ge i l (k + 1) M = ge i l k M := by
  unfold ge
  rw [getD_in _ _ _ hk] at h
  rw [List.take_succ_eq_append_getElem hk, List.filter_append, List.filter_cons_of_neg (by simpa using h), List.filter_nil, List.append_nil]
theorem ge_end (i N M : Nat) (f : Nat → Bool) : (onL N (fromF i N f)).take M = ge i (onL N f) (onL N f).length M := by
  unfold ge
  rw [List.take_length]
  unfold onL
  rw [List.filter_filter]
  congr 1
  refine List.filter_congr fun x hx => ?_
  have := List.mem_range.1 hx
  simp [fromF, this]
set_option maxHeartbeats 1000000 in
set_option linter.unusedVariables false in
theorem fnNextMany_bad (L : Int) (i : Int) (room : Int) (v : Value) (zs : List Int) (w : World) (hv : IntsZ w v zs) (hlen : zs.length ≤ 9223372036854775807) (hL : -9223372036854775808 ≤ L) (hL2 : L ≤ 9223372036854775807) (hb : ¬ (Good L zs ∧ 0 ≤ i ∧ i ≤ 2500)) :
    Calls Tryd.prog 6 #[.agg #[.int .i64 L, v], .int .i64 i, .int .u8 room] w fun e w' => e = .returned (.bool true) ∧ Kept [] w w' := by
  have k0 : Kept [] w (w.alloc (.cells #[.int .i64 L, v] 24)) := (Kept.refl _ _).alloc _
  have g0 : (w.alloc (.cells #[.int .i64 L, v] 24)).heap[w.heap.size]? = some (.cells #[.int .i64 L, v] 24 (0, 0)) := heap_alloc_new w _
  obtain ⟨ad, m, cap, rfl⟩ : ∃ ad m cap, v = .slice ad m cap := by
    rcases hv with ⟨ad, cap, h3, h4⟩ | ⟨b, off, cap, h3, _, _⟩ <;> exact ⟨_, _, _, h3⟩
  by_cases hm : m ≤ 2147483647
  · have hd : decide (m ≤ 2147483647) = true := by simpa using hm
    by_cases hg : Good L zs
    · obtain ⟨Ln, on, rfl, q1, q2, q3, q4⟩ := hv.good hg
      have hi : ¬ (0 ≤ i ∧ i ≤ 2500) := fun h => hb ⟨hg, h⟩
      have hdi : (decide (0 ≤ i) && decide (i ≤ 2500)) = false := by simp; omega
      clear hb hg
      go_enter Tryd.func6, Tryd.ntmps6
      go_wp2_with fail
      refine (zz_c Ln ad m cap _).mono ?_
      rintro e w1 ⟨rfl, k1⟩
      have c0 : w1.cell? ⟨w.heap.size, 0, none⟩ = some (.int .i64 Ln) := (cell_of_heap (k1.heap (by simp) g0)).trans rfl
      have c1 : w1.cell? ⟨w.heap.size, 1, none⟩ = some (.slice ad m cap) := (cell_of_heap (k1.heap (by simp) g0)).trans rfl
      rw [hd]
      go_wp2_with fail
      refine (setGood_c Ln _ on _ (q4.kept (k0.trans0 k1)) q1 q2 q3).mono ?_
      rintro e w2 ⟨s, rfl, hs, k2⟩
      obtain ⟨b, c, rfl⟩ := hs.shape
      go_wp2_with fail
      refine (fits_c i _).mono ?_
      rintro e w3 ⟨rfl, rfl⟩
      rw [hdi]
      go_wp2_with fail
      go_ret
      exact ⟨rfl, (((k0.trans0 k1).trans0 k2).alloc _)⟩
    · clear hb
      go_enter Tryd.func6, Tryd.ntmps6
      go_wp2_with fail
      refine (zz_c L ad m cap _).mono ?_
      rintro e w1 ⟨rfl, k1⟩
      have c0 : w1.cell? ⟨w.heap.size, 0, none⟩ = some (.int .i64 L) := (cell_of_heap (k1.heap (by simp) g0)).trans rfl
      have c1 : w1.cell? ⟨w.heap.size, 1, none⟩ = some (.slice ad m cap) := (cell_of_heap (k1.heap (by simp) g0)).trans rfl
      rw [hd]
      go_wp2_with fail
      refine (setBad_c L _ zs _ (hv.kept (k0.trans0 k1)) hg hlen hL hL2).mono ?_
      rintro e w2 ⟨rfl, k2⟩
      go_wp2_with fail
      go_ret
      exact ⟨rfl, (((k0.trans0 k1).trans0 k2).alloc _)⟩
  · have hd : decide (m ≤ 2147483647) = false := by simpa using hm
    clear hb
    go_enter Tryd.func6, Tryd.ntmps6
    go_wp2_with fail
    refine (zz_c L ad m cap _).mono ?_
    rintro e w1 ⟨rfl, k1⟩
    rw [hd]
    go_wp2_with fail
    go_ret
    exact ⟨rfl, k0.trans0 k1⟩

set_option maxHeartbeats 2000000 in
set_option linter.unusedVariables false in
theorem fnNextMany_good (L : Nat) (i : Nat) (room : Nat) (v : Value) (on : List Nat) (w : World) (hv : IntsAt w v on) (hL : L ≤ 2000) (hlen : on.length ≤ 400) (hon : ∀ x ∈ on, x < 2500) (hi : i ≤ 2500) (hT : TabW w) (hm : room ≤ 255) :
    Calls Tryd.prog 6 #[.agg #[.int .i64 L, v], .int .i64 i, .int .u8 room] w fun e w' => e = .returned (.bool true) ∧ Kept [] w w' := by
  have k0 : Kept [] w (w.alloc (.cells #[.int .i64 L, v] 24)) := (Kept.refl _ _).alloc _
  have g0 : (w.alloc (.cells #[.int .i64 L, v] 24)).heap[w.heap.size]? = some (.cells #[.int .i64 L, v] 24 (0, 0)) := heap_alloc_new w _
  obtain ⟨ad, cap, rfl⟩ := hv.shape
  have hd : decide (on.length ≤ 2147483647) = true := by simp; omega
  have hdi : (decide ((0 : Int) ≤ i) && decide ((i : Int) ≤ 2500)) = true := by simp; omega
  have hln := lenOf_le L on 2500 (by omega) hon
  go_enter Tryd.func6, Tryd.ntmps6
  go_wp2_with fail
  refine (zz_c L ad on.length cap _).mono ?_
  rintro e w1 ⟨rfl, k1⟩
  have h1 := k1.heap (by simp) g0
  have c0 : w1.cell? ⟨w.heap.size, 0, none⟩ = some (.int .i64 L) := (cell_of_heap h1).trans rfl
  have c1 : w1.cell? ⟨w.heap.size, 1, none⟩ = some (.slice ad on.length cap) := (cell_of_heap h1).trans rfl
  rw [hd]
  go_wp2_with fail
  refine (setGood_c L _ on _ (hv.kept (k0.trans0 k1)) hL hlen hon).mono ?_
  rintro e w2 ⟨s, rfl, hs, k2⟩
  obtain ⟨b, c, rfl⟩ := hs.shape
  have hlt2 := lt_of_heap (k2.heap (by simp) h1)
  clear c0 c1
  go_wp2_with fail
  refine (fits_c i _).mono ?_
  rintro e w3 ⟨rfl, rfl⟩
  rw [hdi]
  have h2a := k2.heap (by simp) h1
  have d0 : w2.cell? ⟨w.heap.size, 0, none⟩ = some (.int .i64 L) := (cell_of_heap h2a).trans rfl
  have d1 : w2.cell? ⟨w.heap.size, 1, none⟩ = some (.slice ad on.length cap) := (cell_of_heap h2a).trans rfl
  go_wp2_with fail
  have hs5 := hs.kept ((Kept.refl _ _).alloc (.cells #[.slice (some ⟨b, 0, none⟩) (lenOf L on) c, .bool true] 28))
  have k3 : Kept [] w2 (w2.alloc (.cells #[.slice (some ⟨b, 0, none⟩) (lenOf L on) c, .bool true] 28)) := (Kept.refl _ _).alloc _
  have gA := k3.heap (by simp) (k2.heap (by simp) h1)
  have gB := heap_alloc_new w2 (.cells #[.slice (some ⟨b, 0, none⟩) (lenOf L on) c, .bool true] 28)
  have hv5 := hv.kept (((k0.trans0 k1).trans0 k2).trans0 k3)
  have kW := ((k0.trans0 k1).trans0 k2).trans0 k3
  clear k3 hs k1 k2 h1 g0 k0 d0 d1 h2a
  obtain ⟨N, hN⟩ : ∃ N, lenOf L on = N := ⟨_, rfl⟩
  (try rw [hN] at hs5); (try rw [hN] at gB); (try rw [hN] at gA); (try rw [hN] at hln); (try rw [hN] at kW); (try rw [hN] at hv5)
  rw [hN]
  have HN := Lib.hid hN; clear hN
  have hWs : (w2.alloc (.cells #[.slice (some ⟨b, 0, none⟩) N c, .bool true] 28)).heap.size = w2.heap.size + 1 := by simp
  generalize (w2.alloc (.cells #[.slice (some ⟨b, 0, none⟩) N c, .bool true] 28)) = W at *
  have A0 : ∀ w', Kept [] W w' → w'.cell? ⟨w.heap.size, 0, none⟩ = some (.int .i64 L) := fun w' k => (cell_of_heap (k.heap (by simp) gA)).trans rfl
  have A1 : ∀ w', Kept [] W w' → w'.cell? ⟨w.heap.size, 1, none⟩ = some (.slice ad on.length cap) := fun w' k => (cell_of_heap (k.heap (by simp) gA)).trans rfl
  have B0 : ∀ w', Kept [] W w' → w'.cell? ⟨w2.heap.size, 0, none⟩ = some (.slice (some ⟨b, 0, none⟩) N c) := fun w' k => (cell_of_heap (k.heap (by simp) gB)).trans rfl
  have B1 : ∀ w', Kept [] W w' → w'.cell? ⟨w2.heap.size, 1, none⟩ = some (.bool true) := fun w' k => (cell_of_heap (k.heap (by simp) gB)).trans rfl
  have hTW := hT.kept0 kW
  have hNb : N ≤ 2500 := hln
  obtain ⟨r, hr⟩ : ∃ r, room % 40 = r := ⟨_, rfl⟩
  have er : (room : Int) % 40 = (r : Int) := by omega
  have er2 : (room : Int).tmod 40 = (r : Int) := by rw [Int.tmod_eq_emod_of_nonneg (by omega)]; omega
  have r0 : (0 : Int) ≤ (r : Int) := by omega
  have r1 : (r : Int) < 40 := by omega
  have m0 : (0 : Int) ≤ (room : Int) := by omega
  have m1 : (room : Int) ≤ 255 := by omega
  obtain ⟨M, hM⟩ : ∃ M, r + 1 = M := ⟨_, rfl⟩
  have eM : (r : Int) + 1 = (M : Int) := by omega
  have M40 : M ≤ 40 := by omega
  have M1 : 0 < M := by omega
  clear hr hM
  obtain ⟨i0, hi0, hz0, hz1, hz2⟩ := info_parts Tryd.info3
  have own0 : (W.alloc (.cells #[] 3)).ownsRow (w2.heap.size + 1) 3 1 (.slice (some ⟨w2.heap.size + 1, 0, none⟩) 0 0) 0 [] := by
    have := World.ownsRow_made W (base := W.heap.size) (e := 3) (size := 1) #[] 0 (by simp) (by unfold maxLen; omega) rfl
    rw [hWs] at this
    simpa using this
  have kA : Kept [] W (W.alloc (.cells #[] 3)) := (Kept.refl _ _).alloc _
  have B00 := B0 _ kA; have B11 := B1 _ kA
  go_wp2_with fail
  refine (on_c _ N (memOf on) true _ (hs5.kept kA) (by omega)).mono ?_
  rintro e w8 ⟨vL, rfl, hownL, k8⟩
  have hvl := IntsAt.of_owns hownL
  obtain ⟨ad7, cp7, rfl⟩ := hvl.shape
  have own8 := ownsRow_kept own0 k8
  have kW8 := kA.trans0 k8
  have hll := onL_le N (memOf on)
  have hlm := onL_lt N (memOf on)
  have hend := ge_end i N M (memOf on)
  obtain ⟨l, hl⟩ : ∃ l, onL N (memOf on) = l := ⟨_, rfl⟩
  rw [hl] at hvl hll hlm hend ⊢
  have hbk : ∀ j, (Value.slice ad7 (onL N (memOf on)).length cp7).ownBlock = some j → w2.heap.size + 1 < j := fun j hj => by
    have := (hownL.lt j hj).1
    simp at this
    omega
  rw [hl] at hbk
  clear hl hownL own0 B00 B11
  obtain ⟨C, hC⟩ : ∃ C, l.length = C := ⟨_, rfl⟩
  rw [hC] at hll hend ⊢
  have HEND := Lib.hid hend; clear hend
  have HC := Lib.hid hC
  have hge0 : ge i l 0 M = [] := by simp [ge]
  have own8' : w8.ownsRow (w2.heap.size + 1) 3 1 (.slice (some ⟨w2.heap.size + 1, 0, none⟩) 0 0) (ge i l 0 M).length (intsOf (ge i l 0 M)) := by rw [hge0]; exact own8
  go_wp2_with fail
  go_loopw [10, 38] (fun v j wr => ∃ k : Nat, k ≤ C ∧ j = .int .i64 k ∧ wr.ownsRow (w2.heap.size + 1) 3 1 v (ge i l k M).length (intsOf (ge i l k M)) ∧ Kept [] W wr ∧ w2.heap.size + 1 < wr.heap.size ∧ Kept [w2.heap.size + 1] w8 wr ∧ ∀ j, v.ownBlock = some j → j = w2.heap.size + 1 ∨ w8.heap.size ≤ j) (fun _ j _ => C - (intOf j).toNat)
  case atStart => exact ⟨0, Nat.zero_le _, rfl, own8', kW8, by have := k8.size; simp at this; omega, Kept.refl _ _, fun j hj => by simp [Value.ownBlock] at hj; left; omega⟩
  case round =>
    obtain ⟨k, hk, rfl, hown, kr, hsz, k8r, hob⟩ := hrel
    have hgl := ge_le i l k M
    by_cases hkC : k < C
    · obtain ⟨b7, o7, rfl, cx8⟩ := hvl.at_ k (by omega)
      have hb7 := hbk b7 rfl
      have cx := k8r.cell (p := ⟨b7, o7 + k, none⟩) (by simp; omega) cx8
      have hkl : k < l.length := by omega
      have hkC' : (k : Int) < (C : Int) := by omega
      have hk0 : (0 : Int) ≤ (k : Int) := by omega
      by_cases hge : i ≤ l.getD k 0
      · by_cases hful : (ge i l k M).length < M
        · have RR := ge_yes hkl hge hful
          generalize l.getD k 0 = x at *
          have hge' : (i : Int) ≤ (x : Int) := by omega
          obtain ⟨G, hG⟩ : ∃ G, ge i l k M = G := ⟨_, rfl⟩
          rw [hG] at hown RR hful hgl
          clear hG cx8
          obtain ⟨adw, cpw, rfl⟩ := (IntsAt.of_owns hown).shape
          have hful' : (G.length : Int) < (M : Int) := by omega
          go_wp2_with (at_builtin; refine wpList_append_own_at _ rfl _ _ 22 rfl (w2.heap.size + 1) 3 i0 (.int .i64 0) 1 8 Tryd.underlying22 hi0 hz0 hz1 hz2 rfl (by decide) _ _ _ rfl (World.ownsRow.alloc hown _) ⟨wr.heap.size, 0, none⟩ 1 1 [.int .i64 x] rfl rfl ?c1 ?c2 ?c3 ?c4 ?c5 ?_)
          case c1 => exact cell_one_new _ _ _
          case c2 => intro u hu; simp at hu; subst hu; rfl
          case c3 => unfold maxLen; omega
          case c4 => omega
          case c5 => simp; omega
          intro v' w9 hown' hgrow _ hob'
          have R : w9.ownsRow (w2.heap.size + 1) 3 1 v' (ge i l (k + 1) M).length (intsOf (ge i l (k + 1) M)) := by
            rw [RR]
            have e : intsOf (G ++ [x]) = intsOf G ++ [.int .i64 x] := by simp [intsOf]
            rw [e, List.length_append]; exact hown'
          have KR : Kept [] W w9 := (kr.alloc _).grown hgrow (fun j hj => by have := (hown.lt j hj).1; right; omega)
          have K8 : Kept [w2.heap.size + 1] w8 w9 := (k8r.alloc _).grown hgrow (fun j hj => by rcases hob j hj with h | h; left; simp [h]; right; exact h)
          have HS9 : w2.heap.size + 1 < w9.heap.size := by have := hgrow.size; simp at this; omega
          have HOB : Hid (∀ j, v'.ownBlock = some j → j = w2.heap.size + 1 ∨ w8.heap.size ≤ j) := Lib.hid fun j hj => by
            rcases hob' with h | h
            · rw [h] at hj; exact hob j hj
            · rw [h] at hj; simp at hj; have := k8r.size; right; omega
          have HR := Lib.hid R; clear hown' hgrow hown R RR hob hob' cx
          go_wp2_with fail
          go_roundw
          case rel => exact ⟨k + 1, by omega, by go_num, HR.out, KR, HS9, K8, HOB.out⟩
          case measure => simp [intOf] <;> omega
        · have RR := ge_full hkl hful
          generalize l.getD k 0 = x at *
          have hge' : (i : Int) ≤ (x : Int) := by omega
          obtain ⟨G, hG⟩ : ∃ G, ge i l k M = G := ⟨_, rfl⟩
          rw [hG] at hown RR hful hgl
          clear hG cx8
          obtain ⟨adw, cpw, rfl⟩ := (IntsAt.of_owns hown).shape
          have HR := Lib.hid hown; have HOB := Lib.hid hob; clear hown hob
          have hful' : ¬ (G.length : Int) < (M : Int) := by omega
          go_wp2_with fail
          go_roundw
          case rel => exact ⟨k + 1, by omega, by go_num, by rw [RR]; exact HR.out, kr, hsz, k8r, HOB.out⟩
          case measure => simp [intOf] <;> omega
      · have RR := ge_no (M := M) hkl hge
        generalize l.getD k 0 = x at *
        have hge' : ¬ (i : Int) ≤ (x : Int) := by omega
        rw [← RR] at hown
        have HR := Lib.hid hown; have HOB := Lib.hid hob; clear hown hob cx8
        go_wp2_with fail
        go_roundw
        case rel => exact ⟨k + 1, by omega, by go_num, HR.out, kr, hsz, k8r, HOB.out⟩
        case measure => simp [intOf] <;> omega
    · obtain rfl : k = C := by omega
      have A0' := A0 wr kr; have A1' := A1 wr kr
      obtain ⟨G, hG⟩ : ∃ G, ge i l k M = G := ⟨_, rfl⟩
      have hE := HEND.out
      rw [hG] at hown hgl hE
      clear hG hob
      have hvw := IntsAt.of_owns hown
      obtain ⟨adw, cpw, rfl⟩ := hvw.shape
      clear hown
      go_wp2_with fail
      refine (implMany_c L i M _ on _ (hv5.kept kr) (by omega) (by omega) (fun x hx => by have := hon x hx; omega) (by omega) M1 (by omega) (hTW.kept0 kr) G (by rw [HN.out]; exact hE)).mono ?_
      rintro e w9 ⟨v9, rfl, hi9, k9⟩
      have hw9 := hvw.kept k9
      cases hj : G.length with
      | zero =>
        rw [hj] at hw9
        go_wp2_with fail
        refine (same_c _ _ G _ hi9 hw9 (by omega)).mono ?_
        rintro e w' ⟨rfl, hww⟩
        subst hww
        go_wp2_with fail
        go_ret
        exact ⟨rfl, (kW.trans0 kr).trans0 k9⟩
      | succ j =>
        rw [hj] at hw9
        obtain ⟨bw, ow, rfl, cw⟩ := hw9.at_ j (by omega)
        rw [show j + 1 - 1 = j from rfl]
        obtain ⟨z, hz⟩ : ∃ z, G.getD j 0 = z := ⟨_, rfl⟩
        rw [hz] at cw ⊢
        have HZ := Lib.hid hz; clear hz
        have j0 : (0 : Int) ≤ (j : Int) := by omega
        have j1 : (j : Int) + 1 - 1 = (j : Int) := by omega
        have j2 : ¬ (j : Int) + 1 = 0 := by omega
        go_wp2_with fail
        refine (same_c _ _ G _ hi9 hw9 (by omega)).mono ?_
        rintro e w' ⟨rfl, hww⟩
        subst hww
        go_wp2_with fail
        go_ret
        exact ⟨rfl, (kW.trans0 kr).trans0 k9⟩

theorem fnNextMany_c (L : Int) (i : Int) (room : Int) (hwf : (Lit.int .u8 room).wf = true) (v : Value) (zs : List Int) (w : World) (hv : IntsZ w v zs) (hlen : zs.length ≤ 9223372036854775807) (hL : -9223372036854775808 ≤ L) (hL2 : L ≤ 9223372036854775807) (hT : TabW w) :
    Calls Tryd.prog 6 #[.agg #[.int .i64 L, v], .int .i64 i, .int .u8 room] w fun e w' => e = .returned (.bool true) ∧ Kept [] w w' := by
  by_cases hg : Good L zs ∧ 0 ≤ i ∧ i ≤ 2500
  · have hg0 := hg
    obtain ⟨hg1, pi, ri⟩ := hg
    obtain ⟨Ln, on, rfl, q1, q2, q3, q4⟩ := hv.good hg1
    obtain ⟨i, rfl⟩ := Int.eq_ofNat_of_zero_le pi
    obtain ⟨mm, rfl, hm2⟩ := u8_of hwf
    exact fnNextMany_good Ln i mm v on w q4 q1 q2 q3 (by omega) hT hm2
  · exact fnNextMany_bad L i room v zs w hv hlen hL hL2 hg

open Go.ChangeShapes Go.WideShapes Go.ChangeAt Go.Joins

set_option maxRecDepth 100000 in
theorem fnNextMany_lifted (os : Os) (started : os.Started) (H : Type) (enc : TypeId × Value → H) :
    ReturnsInHanded {} Tryd.checked os 6 .any (fun w args => (Rows.fnNextManySpec.pre enc Tryd.prog Tryd.f6 [] false w args ∧ laidMetH Tryd.prog laid1 w) ∧ sizedMet enc Tryd.prog Tryd.f6 (OpenSpec.ofChange Rows.fnNextManySpec) false w args)
      (Rows.fnNextManySpec.post enc Tryd.prog Tryd.f6 false true false false) := by
  refine returnsInHanded_of_change_and (C := Tryd.checked) (X := fun w _ => laidMetH Tryd.prog laid1 w) (fun _ _ _ hh h => h.of_heap hh) Tryd.own started (by kernel_rfl) Tryd.func6
    (ChangeSpec.witness_shaped (enc := enc) (C := Tryd.checked) (os := os) (X := fun w _ => laidMetH Tryd.prog laid1 w) false (World.doorLaid Tryd.prog 400 os) #[.agg #[.int .i64 0, .slice none 0 0], .int .i64 0, .int .u8 0] 8 rfl (World.shaped_of_RefB (by kernel_rfl) (by kernel_rfl)) (by kernel_rfl) (by kernel_rfl) (by kernel_rfl) (door_met os _)) ?_
  intro W base args ds gs before hval0 hW _ _ hL _
  have hval : ∀ (j : Nat) t v, Tryd.f6.params[j]? = some t → args[j]? = some v → Value.okWide Tryd.prog W .any base t v := hval0
  have hW' := hW
  obtain ⟨p, q, hA0, hV, rfl, _, _⟩ := hW
  have hA : DataW.TrodAll enc Tryd.prog W 0 (fun _ => true) true Tryd.f6.params.toList args.toList ds p := hA0
  rw [Tryd.params6] at hA hval
  obtain ⟨v0, v1, v2, d0, d1, d2, p0, p1, p2, rfl, rfl, rfl, h0, h1, h2⟩ := trodAll_three hA
  obtain ⟨rfl, rfl⟩ := trodVars_none hV
  obtain ⟨room, rfl, rfl, rfl, wi2⟩ := open_int Tryd.underlying5 (hval 2 5 v2 rfl rfl) h2
  obtain ⟨i, rfl, rfl, rfl, wi1⟩ := open_int Tryd.underlying3 (hval 1 3 v1 rfl rfl) h1
  obtain ⟨L0, s0, zs0, rfl, hz0, hlen0, hL0, hR0⟩ := bits_read (hval 0 24 v0 rfl rfl) h0
  clear hA0 hval0
  simp only [List.append_nil] at hW'
  have hlt0 : ∀ x ∈ p0, x.block < W.heap.size := fun x hx => by simpa using hW'.lt x (by simp [hx])
  have hT := tab_of_laid hL
  refine (fnNextMany_c L0 i room wi2 s0 zs0 W hz0 hlen0 hL0 hR0 hT).mono fun e W' ⟨he, hk⟩ => ?_
  subst he
  have hb := hk.below
  refine ⟨_, rfl, _, _, _, [], p0 ++ ([] ++ []), [], hW', ?_, ?_, rfl, hb.frame _, fun h => by cases h⟩
  · exact trodAll_mk1 (shut_bool Tryd.underlying4 true)
  · exact trodAll_mk3 (Below.trod Tryd.laidOut (by kernel_rfl) (of_decide_eq_true (by kernel_rfl)) h0 hb hlt0) (shut_int Tryd.underlying3 wi1) (shut_int Tryd.underlying5 wi2)

theorem fnNextMany_row : Rows.FnNextManySaid :=
  OpenClaim.holds_of_wide 6 Tryd.f6 rfl rfl rfl rfl rfl rfl rfl ⟨rfl, rfl, rfl, rfl, rfl⟩ rfl rfl rfl rfl rfl (by kernel_rfl) Tryd.func6 (by kernel_rfl)
    (of_decide_eq_true (by kernel_rfl)) (by unfold Func.isWrapper; first | (rw [if_pos (by decide +kernel)]; kernel_rfl) | (rw [if_neg (by decide +kernel)]; exact ⟨rfl, rfl⟩))
    (fun os started H enc _ => fnNextMany_lifted os started H enc)

theorem fnNextManyCard_holds : Rows.FnNextManyCardSaid :=
  Claim7.holds_tied_plain_at .later [] [.data] true (true, "071c253dde6df62798ad3f12a1a7cac913dd6821ae4f6b8b9b17d7da068a5a9d") false
    fnNextMany_row (fun _ h => by cases h) (by kernel_rfl) (fun _ h => by cases h) fnNextMany_row_tie rfl ⟨rfl, rfl⟩ (by kernel_rfl) rfl
    (fun f fn hf hfn => by
      obtain rfl : f = 6 := Option.some.inj ((show Tryd.prog.funcNamed "loop.example/pub-setsofbits/laws.FnNextMany" = some 6 by kernel_rfl).symm.trans hf) |>.symm
      obtain rfl : fn = Tryd.f6 := (Option.some.inj (Tryd.func6.symm.trans hfn)).symm
      exact ⟨by kernel_rfl, fun j t ht => by
        rw [Tryd.params6] at ht
        have hm : t ∈ [24, 3, 5] := by simpa using Array.mem_of_getElem? ht
        have hall : ([24, 3, 5].all fun u => !Tryd.prog.wantsStandIn u) = true := by kernel_rfl
        exact (show Tryd.prog.wantsStandIn t = false by simpa using List.all_eq_true.1 hall t hm)⟩)
    (by kernel_rfl)

end Go.Proofs.YtafbdkcbgjpolaaDoor

/-
  impl.AppendTo: the numbers handed in and the set's bits behind them.
-/
import Derived.Test.YtafbdkcbgjpolaaDoorApp
import Derived.Test.YtafbdkcbgjpolaaDoorInI2
namespace Go.Proofs.YtafbdkcbgjpolaaDoor
set_option linter.unusedSimpArgs false
set_option linter.unusedVariables false
set_option maxRecDepth 100000
open Go.RowKit

theorem ownsRow_base {w : World} {B B' e sz n : Nat} {v : Value} {xs : List Value} (h : w.ownsRow B e sz v n xs) (hB : B' ≤ B) : w.ownsRow B' e sz v n xs := by
  obtain ⟨h1, h2⟩ := h
  refine ⟨h1, ?_⟩
  rcases h2 with h2 | ⟨g, cap, cur, e1, e2, e3, e4⟩
  · exact .inl h2
  · exact .inr ⟨g, cap, cur, e1, Nat.le_trans hB e2, e3, e4⟩
theorem own_block {w : World} {B e sz n : Nat} {v : Value} {xs : List Value} (h : w.ownsRow B e sz v n xs) (hB : B < w.heap.size) : ∃ gb, B ≤ gb ∧ gb < w.heap.size ∧ ∀ j, v.ownBlock = some j → j = gb := by
  obtain ⟨h1, h2⟩ := h
  rcases h2 with ⟨rfl, _⟩ | ⟨g, cap, cur, rfl, e2, e3, e4⟩
  · exact ⟨B, Nat.le_refl _, hB, fun j hj => by simp [Value.ownBlock] at hj⟩
  · exact ⟨g, e2, lt_of_heap e3, fun j hj => by simp [Value.ownBlock] at hj; omega⟩
/-- A slice value of uint reads as these numbers. -/
def UAt (w : World) (v : Value) (l : List Nat) : Prop :=
  (∃ ad cap, v = .slice ad 0 cap ∧ l = []) ∨ (∃ b off cap, v = .slice (some ⟨b, off, none⟩) l.length cap ∧ ∀ j, j < l.length → w.cell? ⟨b, off + j, none⟩ = some (.int .u64 (l.getD j 0 : Nat)))
theorem UAt.kept {w w' : World} {v : Value} {l : List Nat} (h : UAt w v l) (k : Kept [] w w') : UAt w' v l := by
  rcases h with h | ⟨b, off, cap, rfl, hc⟩
  · exact .inl h
  · exact .inr ⟨b, off, cap, rfl, fun j hj => k.cell (by simp) (hc j hj)⟩
theorem UAt.shape {w : World} {v : Value} {l : List Nat} (h : UAt w v l) : ∃ ad c, v = .slice ad l.length c := by
  rcases h with ⟨ad, cap, rfl, rfl⟩ | ⟨b, off, cap, rfl, _⟩ <;> exact ⟨_, _, rfl⟩
theorem UAt.at_ {w : World} {ad : Option Addr} {n cap : Nat} {l : List Nat} (h : UAt w (.slice ad n cap) l) (k : Nat) (hk : k < l.length) : ∃ b off, ad = some ⟨b, off, none⟩ ∧ w.cell? ⟨b, off + k, none⟩ = some (.int .u64 (l.getD k 0 : Nat)) := by
  rcases h with ⟨_, _, _, rfl⟩ | ⟨b, off, c, h1, h2⟩
  · exact absurd hk (Nat.not_lt_zero _)
  · simp only [Value.slice.injEq] at h1
    exact ⟨b, off, h1.1, h2 k hk⟩
theorem UAt.of_owns {w : World} {B : Nat} {v : Value} {l : List Nat} (h : w.ownsRow B 48 1 v l.length (u64s l)) : UAt w v l := by
  have h0 := h
  obtain ⟨_, hcase⟩ := h
  rcases hcase with ⟨rfl, h1⟩ | ⟨g, cap', cur, rfl, _⟩
  · exact .inl ⟨_, _, rfl, List.eq_nil_of_length_eq_zero h1⟩
  · refine .inr ⟨g, 0, cap', rfl, fun j hj => ?_⟩
    rw [Nat.zero_add, h0.cellAt j (by omega)]
    simp [u64s, hj]
theorem IntsAt.pos {w : World} {ad : Option Addr} {n cap : Nat} {l : List Nat} (h : IntsAt w (.slice ad n cap) l) (k : Nat) (hk : k < l.length) : ∃ b off, ad = some ⟨b, off, none⟩ ∧ w.cell? ⟨b, off + k, none⟩ = some (.int .i64 (l.getD k 0 : Nat)) := by
  rcases h with ⟨_, _, _, rfl⟩ | ⟨b, off, c, h1, h2⟩
  · exact absurd hk (Nat.not_lt_zero _)
  · simp only [Value.slice.injEq] at h1
    exact ⟨b, off, h1.1, h2 k hk⟩
set_option maxHeartbeats 1000000 in
theorem ints63_c (v : Value) (l : List Nat) (w : World) (h : UAt w v l) (hlen : l.length ≤ 1000000) (hl : ∀ x ∈ l, x < 9223372036854775808) :
    Calls Tryd.prog 30 #[v] w fun e w' => ∃ v, e = .returned v ∧ w'.ownsRow w.heap.size 3 1 v l.length (intsOf l) ∧ Kept [] w w' := by
  obtain ⟨i0, hi, hz0, hz1, hz2⟩ := info_parts Tryd.info3
  obtain ⟨ad, cp, rfl⟩ := h.shape
  have hst : InInv w (w.alloc (.cells #[] 3)) 0 l (.slice (some ⟨w.heap.size, 0, none⟩) 0 0) := by
    refine ⟨(Kept.refl _ _).alloc _, by simp, ?_⟩
    have := World.ownsRow_made w (base := w.heap.size) (e := 3) (size := 1) #[] 0 (by simp) (by unfold maxLen; omega) rfl
    simpa [intsOf] using this
  obtain ⟨N, hN⟩ : ∃ N, l.length = N := ⟨_, rfl⟩
  have HN := Lib.hid hN
  rw [hN] at h hlen ⊢
  go_enter Tryd.func30, Tryd.ntmps30
  go_wp2
  go_loopw [3, 9] (fun v i wr => ∃ k : Nat, k ≤ N ∧ i = .int .i64 k ∧ InInv w wr k l v) (fun _ i _ => N - (intOf i).toNat)
  case atStart => exact ⟨0, Nat.zero_le _, rfl, hst⟩
  case round =>
    obtain ⟨k, hk, rfl, hinv⟩ := hrel
    have hown := hinv.2.2
    have hsz := hinv.2.1
    by_cases hlt : k < N
    · obtain ⟨bs, os, rfl, hcx0⟩ := h.at_ k (by omega)
      have hcx := hinv.1.cell (by simp) hcx0
      have hx := hl (l.getD k 0) (by rw [getD_in _ _ _ (show k < l.length by omega)]; exact List.getElem_mem _)
      have ht : l.take (k + 1) = l.take k ++ [l.getD k 0] := by rw [getD_in _ _ _ (show k < l.length by omega), List.take_succ_eq_append_getElem (by omega)]
      clear hcx0
      generalize l.getD k 0 = x at *
      have hx1 : (x : Int) < 9223372036854775808 := by omega
      have hx0 : (0 : Int) ≤ (x : Int) := by omega
      have hlt' : (k : Int) < (N : Int) := by omega
      go_wp2_with (at_builtin; refine wpList_append_own _ rfl _ _ 22 rfl w.heap.size 3 i0 (.int .i64 0) 1 8 Tryd.underlying22 hi hz0 hz1 hz2 rfl (by decide) _ _ _ rfl (World.ownsRow.alloc hown _) ⟨wr.heap.size, 0, none⟩ 1 1 [.int .i64 x] rfl rfl ?c1 ?c2 ?c3 ?c4 ?c5 ?_)
      case c1 => exact cell_one_new _ _ _
      case c2 => intro u hu; simp at hu; subst hu; rfl
      case c3 => unfold maxLen; omega
      case c4 => omega
      case c5 => simp; omega
      intro v' w1 hown' hgrow _
      have R : InInv w w1 (k + 1) l v' := by
        refine ⟨(hinv.1.alloc _).grown hgrow (fun j hj => by have := (hown.lt j hj).1; right; omega), by have := hgrow.size; simp at this; omega, ?_⟩
        have e : intsOf (l.take (k + 1)) = intsOf (l.take k) ++ [.int .i64 x] := by rw [ht]; simp [intsOf]
        rw [e]; exact hown'
      clear hown' hgrow hown hcx
      go_wp2
      go_roundw
      case rel => exact ⟨k + 1, by omega, by go_num, R⟩
      case measure => simp [intOf]; omega
    · obtain rfl : k = N := by omega
      have R : wr.ownsRow w.heap.size 3 1 u3 k (intsOf l) := by
        have := hown
        rwa [List.take_of_length_le (by have := HN.out; omega)] at this
      have KR := hinv.1
      clear hown hinv
      go_wp2
      go_ret
      exact ⟨_, rfl, R, KR⟩
set_option maxHeartbeats 2000000 in
theorem implAppendTo_c (L : Nat) (v vs : Value) (on l0 : List Nat) (w : World) (hv : IntsAt w v on) (hL : L ≤ 9000) (hlen : on.length ≤ 1000000) (hon : ∀ x ∈ on, x < 9000) (hvs : IntsAt w vs l0) (hl0 : l0.length ≤ 100) (h63 : ∀ x ∈ l0, x < 9223372036854775808) (hT : TabW w) (l : List Nat) (hres : l0 ++ onL (lenOf L on) (memOf on) = l) :
    Calls Tryd.prog 20 #[.agg #[.int .i64 L, v], vs] w fun e w' => ∃ v', e = .returned v' ∧ w'.ownsRow w.heap.size 3 1 v' l.length (intsOf l) ∧ Kept [] w w' := by
  obtain ⟨i0, hi0, hz0, hz1, hz2⟩ := info_parts Tryd.infoVa
  obtain ⟨ad, cp, rfl⟩ := hvs.shape
  have hln := lenOf_le L on 9000 hL hon
  have hp := hT.pos
  have hl63 : ∀ x ∈ l, x < 9223372036854775808 := fun x hx => by
    rw [← hres] at hx
    rcases List.mem_append.1 hx with h | h
    · exact h63 x h
    · have := onL_lt _ _ x h; omega
  have hlen2 : l.length ≤ 10000 := by rw [← hres, List.length_append]; have := onL_le (lenOf L on) (memOf on); omega
  obtain ⟨wA, hwA⟩ : ∃ wA, w.alloc (.cells #[.int .i64 L, v] 24) = wA := ⟨_, rfl⟩
  have k0 : Kept [] w wA := hwA ▸ (Kept.refl _ _).alloc _
  have hsA : wA.heap.size = w.heap.size + 1 := by rw [← hwA]; simp
  have gA : wA.heap[w.heap.size]? = some (.cells #[.int .i64 L, v] 24 (0, 0)) := by rw [← hwA]; exact heap_alloc_new w _
  have own0 : (wA.alloc (.cells #[] 48)).ownsRow wA.heap.size 48 1 (.slice (some ⟨wA.heap.size, 0, none⟩) 0 0) 0 (u64s (l0.take 0)) := by
    have := World.ownsRow_made wA (base := wA.heap.size) (e := 48) (size := 1) #[] 0 (by simp) (by unfold maxLen; omega) rfl
    simpa [u64s] using this
  rw [hsA] at own0
  obtain ⟨N, hN⟩ : ∃ N, l0.length = N := ⟨_, rfl⟩
  rw [hN] at hvs hl0 ⊢
  have HN := Lib.hid hN; have HRES := Lib.hid hres; have HL63 := Lib.hid hl63; have HLE := Lib.hid hlen2
  clear hN hres hl63 hlen2
  go_enter Tryd.func20, Tryd.ntmps20
  go_wp2_with fail
  have HWA := Lib.hid hwA; clear hwA
  go_loopw [5, 11] (fun b i wr => ∃ k : Nat, k ≤ N ∧ i = .int .i64 k ∧ wr.ownsRow (w.heap.size + 1) 48 1 b k (u64s (l0.take k)) ∧ Kept [] wA wr ∧ w.heap.size + 1 < wr.heap.size) (fun _ i _ => N - (intOf i).toNat)
  case atStart => exact ⟨0, Nat.zero_le _, rfl, own0, (Kept.refl _ _).alloc _, by simp; omega⟩
  case round =>
    obtain ⟨k, hk, rfl, hown, kr, hsz⟩ := hrel
    by_cases hlt : k < N
    · have := HN.out
      obtain ⟨bs, os, rfl, hcx0⟩ := hvs.pos k (by omega)
      have hcx := (k0.trans0 kr).cell (by simp) hcx0
      have hx := h63 (l0.getD k 0) (by rw [getD_in _ _ _ (show k < l0.length by omega)]; exact List.getElem_mem _)
      have ht : l0.take (k + 1) = l0.take k ++ [l0.getD k 0] := by rw [getD_in _ _ _ (show k < l0.length by omega), List.take_succ_eq_append_getElem (by omega)]
      have HTK := Lib.hid ht
      clear hcx0 ht this own0
      generalize l0.getD k 0 = x at *
      have hx1 : (x : Int) < 9223372036854775808 := by omega
      have hx0 : (0 : Int) ≤ (x : Int) := by omega
      have hxw : IntKind.u64.wrap (x : Int) = (x : Int) := by rw [IntKind.wrap_u64]; omega
      have hlt' : (k : Int) < (N : Int) := by omega
      obtain ⟨adw, lnw, cpw, rfl⟩ := slice_of_owns hown
      go_wp2_with (at_builtin; refine wpList_append_own _ rfl _ _ 53 rfl (w.heap.size + 1) 48 i0 (.int .u64 0) 1 8 Tryd.underlying53 hi0 hz0 hz1 hz2 rfl (by decide) _ _ _ rfl (World.ownsRow.alloc hown _) ⟨wr.heap.size, 0, none⟩ 1 1 [.int .u64 x] rfl rfl ?c1 ?c2 ?c3 ?c4 ?c5 ?_)
      case c1 => exact cell_one_new _ _ _
      case c2 => intro u hu; simp at hu; subst hu; rfl
      case c3 => unfold maxLen; omega
      case c4 => omega
      case c5 => simp; omega
      intro v' w1 hown' hgrow _
      have R : w1.ownsRow (w.heap.size + 1) 48 1 v' (k + 1) (u64s (l0.take (k + 1))) := by
        rw [HTK.out, u64s_append]; exact hown'
      have KR : Kept [] wA w1 := (kr.alloc _).grown hgrow (fun j hj => by have := (hown.lt j hj).1; right; omega)
      have HS9 : w.heap.size + 1 < w1.heap.size := by have := hgrow.size; simp at this; omega
      have HR := Lib.hid R
      clear hown' hgrow hown hcx R
      obtain ⟨ad9, ln9, cp9, rfl⟩ := slice_of_owns HR.out
      go_wp2_with fail
      go_roundw
      case rel => exact ⟨k + 1, by omega, by go_num, HR.out, KR, HS9⟩
      case measure => simp [intOf]; omega
    · obtain rfl : k = N := by omega
      have hown1 : wr.ownsRow (w.heap.size + 1) 48 1 u5 l0.length (u64s l0) := by
        rw [HN.out]
        have := hown
        rwa [List.take_of_length_le (by have := HN.out; omega)] at this
      obtain ⟨gb, hgb1, hgb2, hgb3⟩ := own_block hown1 hsz
      have gR := kr.heap (by simp) gA
      have hc0 : wr.cell? ⟨w.heap.size, 0, none⟩ = some (.int .i64 L) := by rw [cell_of_heap gR]; rfl
      have hc1 : wr.cell? ⟨w.heap.size, 1, none⟩ = some v := by rw [cell_of_heap gR]; rfl
      obtain ⟨adv, cpv, rfl⟩ := hv.shape
      have hvr := hv.kept (k0.trans0 kr)
      have HO := Lib.hid hown1; have HG3 := Lib.hid hgb3
      clear hown hown1 hgb3 gR own0
      obtain ⟨adw, lnw, cpw, rfl⟩ := slice_of_owns HO.out
      go_wp2_with fail
      refine (build_c L _ on _ hvr (by omega) (fun x hx => by have := hon x hx; omega) hlen).mono ?_
      rintro e w1 ⟨b, g, rfl, hb, n1, n2, k1⟩
      have kw1 := (k0.trans0 kr).trans0 k1
      clear hc0 hc1
      go_wp2_with fail
      refine (appendTo_c b g _ (w.heap.size + 1) gb _ l0 _ w1 hb (by omega) (ownsRow_kept HO.out k1) (by have := k1.size; omega) HG3.out (by omega) (by omega) (by omega) (by rw [HN.out]; omega) (hT.kept0 kw1) l HRES.out).mono ?_
      rintro e w2 ⟨v2, rfl, hown2, k2, hob2⟩
      have HO2 := Lib.hid hown2; clear hown2 hob2
      obtain ⟨ad2, ln2, cp2, rfl⟩ := slice_of_owns HO2.out
      go_wp2_with fail
      refine (ints63_c _ l w2 (UAt.of_owns HO2.out) (by have := HLE.out; omega) HL63.out).mono ?_
      rintro e w3 ⟨v3, rfl, hown3, k3⟩
      have KK : Kept [] w w3 := (kw1.trans k2 (fun j hj => by simp at hj; right; omega)).trans0 k3
      have R := ownsRow_base hown3 (B' := w.heap.size) (by have := kw1.size; have := k2.size; omega)
      have HR := Lib.hid R; clear hown3 R
      obtain ⟨ad3, ln3, cp3, rfl⟩ := slice_of_owns HR.out
      go_wp2_with fail
      go_ret
      exact ⟨_, rfl, HR.out, KK⟩

end Go.Proofs.YtafbdkcbgjpolaaDoor

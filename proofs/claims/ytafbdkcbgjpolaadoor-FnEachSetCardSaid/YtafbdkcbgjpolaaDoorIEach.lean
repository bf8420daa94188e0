/-
  impl.EachSet: the first bits that are set, as many as are asked for at most.
-/
import Derived.Test.YtafbdkcbgjpolaaDoorEachB
import Derived.Test.YtafbdkcbgjpolaaDoorIApp
namespace Go.Proofs.YtafbdkcbgjpolaaDoor
set_option linter.unusedSimpArgs false
set_option linter.unusedVariables false
set_option maxRecDepth 100000
open Go.RowKit Go.Shelf

theorem owns_len {w : World} {B e : Nat} {n : Nat} {v : Value} {xs : List Value} (h : w.ownsRow B e 1 v n xs) : ∃ ad cp, v = .slice ad n cp := by
  rcases h.2 with ⟨rfl, rfl⟩ | ⟨g', cap', cur', rfl, _⟩
  · exact ⟨_, _, rfl⟩
  · exact ⟨_, _, rfl⟩
theorem ownFrom_kq {β : Type} {ks : List Nat} {B : Nat} {w₀ : World} (h1 : ∀ k ∈ ks, k < w₀.heap.size) (hB : w₀.heap.size ≤ B) : OwnFrom B (fun (_ : β) W => Kq ks w₀ W) :=
  fun _ A A' row hs hg hr k hk => by
    have h2 := h1 k hk
    have h3 : A.heap[k]? = some (w₀.heap[k]'h2) := (hs k hk).trans (Array.getElem?_eq_getElem h2)
    have h4 : k < A.heap.size := lt_of_heap h3
    exact (hg.block k h4 (fun e => by have := (hr k e.symm).1; omega)).trans (hs k hk)
/-- What a round keeps: the row of numbers is none of the iterator's blocks. -/
theorem kq_appended {ks : List Nat} {W w1 : World} {B : Nat} {o : Nat} {v v' : Value} {tmp : Obj} {n : Nat} {xs : List Value} (hrow : W.ownsRow B 3 1 v n xs) (hgrow : (W.alloc tmp).grownBy w1 v.ownBlock)
    (hks : ∀ k ∈ ks, k < W.heap.size ∧ k ≠ o ∧ (k < B ∨ ∀ cs, W.heap[k]? ≠ some (.cells cs 3 (0, 0)))) : Kq ks W (w1.setCell ⟨o, 0, none⟩ v') := fun k hk => by
  obtain ⟨h1, h2, h3⟩ := hks k hk
  rw [Below.heap_setCell _ _ _ _ h2, hgrow.block k (by simp; omega) (fun e => ?_), Below.heap_alloc _ _ _ h1]
  rcases hrow.2 with ⟨rfl, _⟩ | ⟨g, cap, cur, rfl, hb, hg, _⟩
  · simp [Value.ownBlock] at e
  · obtain rfl : k = g := by simpa [Value.ownBlock] using e
    rcases h3 with h3 | h3
    · omega
    · exact h3 cur hg
theorem run_encs (l : List Nat) (h : ∀ x ∈ l, x < 9223372036854775808) : l.map (fun x : Nat => Value.int .i64 (wrap64 (x : Int))) = intsOf l := by
  unfold intsOf
  refine List.map_congr_left fun x hx => ?_
  have := h x hx
  rw [show wrap64 (x : Int) = (x : Int) by unfold wrap64; omega]
set_option maxRecDepth 100000 in
set_option maxHeartbeats 4000000 in
theorem implEachSet_c (L most : Nat) (v : Value) (on : List Nat) (w : World) (hv : IntsAt w v on) (hL : L ≤ 9000) (hlen : on.length ≤ 1000000) (hon : ∀ x ∈ on, x < 9000) (hmost : most ≤ 300) (hT : TabW w) (N : Nat) (hN : lenOf L on = N) (r : List Nat) (hres : (onL N (memOf on)).take most = r) :
    Calls Tryd.prog 22 #[.agg #[.int .i64 L, v], .int .i64 most] w fun e w' => ∃ v', e = .returned v' ∧ w'.ownsRow w.heap.size 3 1 v' r.length (intsOf r) ∧ Kept [] w w' := by
  obtain ⟨i0, hi0, hz0, hz1, hz2⟩ := info_parts Tryd.info3
  have hln := lenOf_le L on 9000 hL hon
  have HNN := Lib.hid hN; have HRES := Lib.hid hres; clear hN hres
  have hp := hT.pos
  have hlt9 := onL_lt (lenOf L on) (memOf on)
  have hle9 := onL_le (lenOf L on) (memOf on)
  obtain ⟨adv, cpv, rfl⟩ := hv.shape
  refine (callsIn_wide (n := 3)).1 ?_
  refine callsIn_of_wp_marks Tryd.func22 rfl trivial ?_ rfl
  simp only [Tryd.ntmps22, List.size_toArray, List.length_cons, List.length_nil, Nat.reduceAdd, Nat.reduceSub, Array.replicate_succ, Array.replicate_zero, List.push_toArray, List.append_toArray, List.nil_append, List.cons_append]
  obtain ⟨wA, hwA⟩ : ∃ wA, (((w.alloc (.cells #[.int .i64 L, .slice adv on.length cpv] 24)).alloc (.cells #[.int .i64 most] 3)).alloc (.cells #[] 3)).alloc (.cells #[.slice (some ⟨w.heap.size + 2, 0, none⟩) 0 0] 22) = wA := ⟨_, rfl⟩
  have k0 : Kept [] w wA := hwA ▸ ((((Kept.refl _ _).alloc _).alloc _).alloc _).alloc _
  have hsA : wA.heap.size = w.heap.size + 4 := by rw [← hwA]; simp
  have gA0 : wA.heap[w.heap.size]? = some (.cells #[.int .i64 L, .slice adv on.length cpv] 24 (0, 0)) := by rw [← hwA]; exact alloc_heap_old (alloc_heap_old (alloc_heap_old (heap_alloc_new w _) _) _) _
  have gA1 : wA.heap[w.heap.size + 1]? = some (.cells #[.int .i64 most] 3 (0, 0)) := by
    rw [← hwA]; refine alloc_heap_old (alloc_heap_old ?_ _) _
    have := heap_alloc_new (w.alloc (.cells #[.int .i64 L, .slice adv on.length cpv] 24)) (.cells #[.int .i64 most] 3)
    simpa using this
  have gA2 : wA.heap[w.heap.size + 2]? = some (.cells #[] 3 (0, 0)) := by
    rw [← hwA]; refine alloc_heap_old ?_ _
    have := heap_alloc_new ((w.alloc (.cells #[.int .i64 L, .slice adv on.length cpv] 24)).alloc (.cells #[.int .i64 most] 3)) (.cells #[] 3)
    simpa using this
  have gA3 : wA.heap[w.heap.size + 3]? = some (.cells #[.slice (some ⟨w.heap.size + 2, 0, none⟩) 0 0] 22 (0, 0)) := by
    rw [← hwA]
    have := heap_alloc_new (((w.alloc (.cells #[.int .i64 L, .slice adv on.length cpv] 24)).alloc (.cells #[.int .i64 most] 3)).alloc (.cells #[] 3)) (.cells #[.slice (some ⟨w.heap.size + 2, 0, none⟩) 0 0] 22)
    simpa using this
  have hc0 : wA.cell? ⟨w.heap.size, 0, none⟩ = some (.int .i64 L) := (cell_of_heap gA0).trans rfl
  have hc1 : wA.cell? ⟨w.heap.size, 1, none⟩ = some (.slice adv on.length cpv) := (cell_of_heap gA0).trans rfl
  gi_wp2_with fail
  obtain ⟨B3, hB3⟩ : ∃ B3, w.heap.size + 1 + 1 + 1 = B3 := ⟨_, rfl⟩
  obtain ⟨B1, hB1⟩ : ∃ B1, w.heap.size + 1 = B1 := ⟨_, rfl⟩
  rw [hB3]
  rw [hB1]
  rw [show w.heap.size + 3 = B3 by omega] at gA3
  rw [hB1] at gA1
  have HB3 := Lib.hid hB3; have HB1 := Lib.hid hB1; have HWA := Lib.hid hwA
  clear hB3 hB1 hwA
  refine ⟨trivial, ?_⟩
  refine (callsIn_wide.2 (build_c L _ on _ (hv.kept k0) (by omega) (fun x hx => by have := hon x hx; omega) hlen)).mono ?_
  rintro e w1 ⟨b, g, rfl, hb, n1, n2, k1⟩
  clear hc0 hc1
  gi_wp2_with fail
  refine ⟨trivial, ?_⟩
  refine (eachSet_in 2 _ w1).mono ?_
  rintro e w2 ⟨rfl, rfl⟩
  gi_wp2_with fail
  obtain ⟨WL, hWL⟩ : ∃ WL, w1.alloc (.cells #[.pointer (some ⟨b, 0, none⟩)] 50) = WL := ⟨_, rfl⟩
  rw [hWL]
  have kL : Kept [] w1 WL := hWL ▸ (Kept.refl _ _).alloc _
  have gBn : WL.heap[w1.heap.size]? = some (.cells #[.pointer (some ⟨b, 0, none⟩)] 50 (0, 0)) := hWL ▸ heap_alloc_new w1 _
  have hszL : WL.heap.size = w1.heap.size + 1 := by rw [← hWL]; simp
  have HWL := Lib.hid hWL; clear hWL
  have kAL := k1.trans0 kL
  have hbL := hb.kept kL (by simp) (by simp)
  have bM : Boxed WL B1 3 (.int .i64 most) := kAL.heap (by simp) gA1
  have bO : Boxed WL B3 22 (.slice (some ⟨w.heap.size + 2, 0, none⟩) 0 0) := kAL.heap (by simp) gA3
  have gR := kAL.heap (by simp) gA2
  have hTL := (hT.kept0 k0).kept0 kAL
  have hs1 := k1.size
  have hb1 := HB1.out; have hb3 := HB3.out
  have hblt := hb.lt
  obtain ⟨hne, cap, ws, hh, hr, hw⟩ := hbL
  have hbL2 : BSet WL b g _ _ := ⟨hne, cap, ws, hh, hr, hw⟩
  have HKS : Hid (∀ k ∈ [0, b, g, w1.heap.size], k < WL.heap.size ∧ k ≠ B3 ∧ (k < w.heap.size + 2 ∨ ∀ cs, WL.heap[k]? ≠ some (.cells cs 3 (0, 0)))) := Lib.hid fun k hk => by
    simp at hk
    rcases hk with rfl | rfl | rfl | rfl
    · exact ⟨by omega, by omega, .inl (by omega)⟩
    · exact ⟨by omega, by omega, .inr (fun cs e => by have h1 : WL.heap[k]? = _ := hh; rw [h1] at e; injection e with e; injection e with _ e2; exact absurd e2 (by decide))⟩
    · exact ⟨by omega, by omega, .inr (fun cs e => by obtain ⟨cur, h1, _⟩ := hr; rw [h1] at e; injection e with e; injection e with _ e2; exact absurd e2 (by decide))⟩
    · exact ⟨by omega, by omega, .inr (fun cs e => by rw [gBn] at e; injection e with e; injection e with _ e2; exact absurd e2 (by decide))⟩
  have hN := HNN.out
  rw [hN] at hln hlt9 hle9 hbL2
  have HN := Lib.hid hN; have HLT := Lib.hid hlt9
  clear hN hh hr hw hlt9 gA0 gA1 gA2 gA3
  have hcells : WL.cell? ⟨w1.heap.size, 0, none⟩ = some (.pointer (some ⟨b, 0, none⟩)) := (cell_of_heap gBn).trans rfl
  refine wpIn_rangeFunc_ownG rfl (by omega) (gf := 39) (lb := #[.pointer (some ⟨w1.heap.size, 0, none⟩)]) rfl trivial (enters_of Tryd.func39 (by kernel_rfl) rfl)
    (each_stops 2 (by omega) w1.heap.size b g N (memOf on) (by omega) WL (by omega) hcells hbL2 hTL) Kq.trans (fun W l o o' hl h1 _ _ k hk => by have := (HKS.out k hk).1; exact World.putObj_heap_other (by omega)) (Below.refl _ _) (fun _ => rfl)
    (fun pre W => pre.length ≤ most ∧ (∃ v, Boxed W B3 22 v ∧ W.ownsRow (w.heap.size + 2) 3 1 v pre.length (pre.map (fun x : Nat => Value.int .i64 (wrap64 (x : Int)))) ∧ True) ∧ Boxed W B1 3 (.int .i64 most) ∧ Kq [0, b, g, w1.heap.size] WL W ∧ Below w.heap.size w W)
    (fun c pre W => (c = .exit 0 ∧ ∃ ini x, pre = ini ++ [x] ∧ ini.length = most ∧ (∃ v, Boxed W B3 22 v ∧ W.ownsRow (w.heap.size + 2) 3 1 v ini.length (ini.map (fun x : Nat => Value.int .i64 (wrap64 (x : Int)))) ∧ True)) ∧ Below w.heap.size w W)
    (OwnFrom.and (ownFrom_pure _ _) (OwnFrom.and (Own.from (holdsRow_own (w.heap.size + 2) B3 22 3 1 (fun pre : List Nat => pre.length) (fun pre => pre.map (fun x : Nat => Value.int .i64 (wrap64 (x : Int)))) (fun _ _ => True)) _) (OwnFrom.and (Own.from (boxed_own _ _ _) _) (OwnFrom.and (ownFrom_kq (fun k hk => (HKS.out k hk).1) (Nat.le_refl _)) (ownFrom_below (Nat.le_refl _) (by omega))))))
    (fun c => OwnFrom.and (Own.from (fun s A B row hs hg hr => by
      obtain ⟨hc, ini, x, e1, e2, h3⟩ := hs
      exact ⟨hc, ini, x, e1, e2, holdsRow_own (w.heap.size + 2) B3 22 3 1 (fun pre : List Nat => pre.length) (fun pre => pre.map (fun x : Nat => Value.int .i64 (wrap64 (x : Int)))) (fun _ _ => True) ini A B row h3 hg hr⟩) _) (ownFrom_below (Nat.le_refl _) (by omega)))
    ⟨Nat.zero_le _, ⟨_, bO, ⟨rfl, .inr ⟨w.heap.size + 2, 0, #[], rfl, Nat.le_refl _, gR, Nat.le_refl _, by unfold maxLen; omega, rfl, rfl⟩⟩, trivial⟩, bM, Kq.refl _ _, (k0.trans0 kAL).below⟩
    (fun x => { tmps := #[.agg #[.int .i64 L, .slice adv on.length cpv], .int .i64 most, .pointer (some ⟨w.heap.size, 0, none⟩), .pointer (some ⟨B1, 0, none⟩), .slice none 0 0, .pointer (some ⟨B3, 0, none⟩), .int .u64 (x : Nat), .slice (some ⟨B1 + 1, 0, none⟩) 0 0, .agg #[.int .i64 L, .slice adv on.length cpv], .pointer (some ⟨b, 0, none⟩), .func (.func 39) #[] #[.pointer (some ⟨w1.heap.size, 0, none⟩)], .int .u64 (x : Nat), undef, undef, undef, undef, undef, undef, undef, undef, undef, undef], defers := [] }) ?assign ?body ?done ?stop
  case assign =>
    intro l x W K hK
    gi_wp2_with (rw [Oper.semAt_eq _ _ _ (fun c h => by cases h)]; go_simp; try go_bits)
    exact hK
  case body =>
    have hsem : ∀ (l : Nat) (ρ : Operand → Value) (o : Oper), (∀ c, o.op ≠ .defer c) → Oper.semAt (some l) ρ o = execOp ρ o := Oper.semAt_some
    rintro l pre x W ⟨hle, ⟨v, hv, hrow, _⟩, hm, hk, hB⟩ hlt
    have hcO := hv.cell
    have hcM := hm.cell
    obtain ⟨ad, cp, rfl⟩ := owns_len hrow
    have hsz := hB.size
    have hszW := hv.lt
    by_cases hf : pre.length = most
    · have hfi : (pre.length : Int) = (most : Int) := by omega
      have HR := Lib.hid hrow; clear hrow
      gi_wp2_with fail
      exact ⟨KeepsFrom.refl _ _, ⟨rfl, pre, x, rfl, hf, _, hv, HR.out, trivial⟩, hB⟩
    · have hfi : ¬ (pre.length : Int) = (most : Int) := by omega
      gi_wp2_with (gi_at_builtin; refine wpListIn_append_own _ rfl _ _ 22 rfl (w.heap.size + 2) 3 i0 (.int .i64 0) 1 8 Tryd.underlying22 hi0 hz0 hz1 hz2 rfl (by decide) _ _ _ rfl (hrow.alloc _) ⟨W.heap.size, 0, none⟩ 1 1 [.int .i64 (wrap64 (x : Int))] rfl rfl (cell_one_new _ _ _) (by simp [Value.oneCell']) (by unfold maxLen; omega) (by omega) (by simp; omega) ?_; intro v' w9 hown' hgrow _; obtain ⟨g', cap', rfl⟩ := ownsRow_succ hown'; obtain ⟨hv1, hv2, hr2, hk2, hb2⟩ := hv.appended (by decide) hrow (by omega) (by omega) hown' hgrow; have hc9 := hv1.cell; have hf9 := hv1.frozen)
      have hKQ : Kq [0, b, g, w1.heap.size] W (w9.setCell ⟨B3, 0, none⟩ (.slice (some ⟨g', 0, none⟩) (pre.length + 1) cap')) := kq_appended hrow hgrow (fun k hk9 => by
        obtain ⟨q1, q2, q3⟩ := HKS.out k hk9
        have q4 : W.heap[k]? = some (WL.heap[k]'q1) := (hk k hk9).trans (Array.getElem?_eq_getElem q1)
        refine ⟨lt_of_heap q4, q2, ?_⟩
        rcases q3 with q3 | q3
        · exact .inl q3
        · exact .inr (fun cs e => q3 cs ((hk k hk9).symm.trans e)))
      have hM9 : Boxed (w9.setCell ⟨B3, 0, none⟩ (.slice (some ⟨g', 0, none⟩) (pre.length + 1) cap')) B1 3 (.int .i64 most) := ((hm.alloc _).kept hgrow (fun e => by have := (hrow.lt B1 e.symm).1; omega)).other (by omega) _
      exact ⟨hk2.from _, hKQ, by simp; omega, ⟨_, hv2, by simpa using hr2, trivial⟩, hM9, hk.trans hKQ, hB.trans (hb2.mono (by omega))⟩
  case done =>
    rintro D ys W hD rfl ⟨hle, ⟨v, hv, hrow, _⟩, hm, hk, hB⟩ hK
    have hcO := hv.cell
    obtain ⟨ad, cp, rfl⟩ := owns_len hrow
    have hW := hB.trans (belowK_b (w := w) (Nat.le_refl _) W D _ (.deferred none) (by omega) hK rfl rfl)
    have hR : (W.putObj D (.deferred none)).ownsRow w.heap.size 3 1 (.slice ad (onL N (memOf on)).length cp) r.length (intsOf r) := by
      rw [← HRES.out, List.take_of_length_le hle, ← run_encs _ (fun x hx => by have := HLT.out x hx; omega)]
      exact ownsRow_base (ownsRow_putObj hrow _ hK rfl) (by omega)
    have HR := Lib.hid hR; clear hR hrow
    gi_wp2_with fail
    refine ⟨by simp, .inl ⟨_, _, rfl, run_takeDeferred hK, ?_⟩⟩
    exact ⟨.slice ad (onL N (memOf on)).length cp, results_tmp (t := 4) rfl _ _ _, _, rfl, HR.out, Kept.of_below hW⟩
  case stop =>
    rintro D c pre W hD hpre ⟨⟨rfl, ini, x, rfl, hl, v, hv, hrow, _⟩, hB⟩ hK
    have hcO := hv.cell
    obtain ⟨ad, cp, rfl⟩ := owns_len hrow
    have hini : (onL N (memOf on)).take most = ini := by
      obtain ⟨r, hr⟩ := hpre
      rw [← hr, ← hl, List.append_assoc, List.take_left']
      rfl
    have hW := hB.trans (belowK_b (w := w) (Nat.le_refl _) W D _ (.deferred none) (by omega) hK rfl rfl)
    have hR : (W.putObj D (.deferred none)).ownsRow w.heap.size 3 1 (.slice ad ini.length cp) r.length (intsOf r) := by
      rw [← HRES.out, hini, ← run_encs ini (fun x hx => by rw [← hini] at hx; have := HLT.out x (List.mem_of_mem_take hx); omega)]
      exact ownsRow_base (ownsRow_putObj hrow _ hK rfl) (by omega)
    have HR := Lib.hid hR; clear hR hrow hini hl
    gi_wp2_with fail
    refine ⟨by simp, .inl ⟨_, _, rfl, run_takeDeferred hK, ?_⟩⟩
    exact ⟨.slice ad ini.length cp, results_tmp (t := 4) rfl _ _ _, _, rfl, HR.out, Kept.of_below hW⟩

end Go.Proofs.YtafbdkcbgjpolaaDoor

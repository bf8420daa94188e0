/-
  laws.FnAppendTo: for every input; the table of TrailingZeros64 is laid, tied to the program's text.
-/
import Derived.SevenTiedAt
import Derived.Maps.AppendAt
import Derived.Deep.AppendSrc
import Derived.Test.YtafbdkcbgjpolaaDoorIApp
import Derived.Test.YtafbdkcbgjpolaaDoorIntsT
import Derived.Test.YtafbdkcbgjpolaaDoorLaid
import Derived.Test.YtafbdkcbgjpolaaDoorOwn
namespace Go.Proofs.YtafbdkcbgjpolaaDoor
set_option linter.unusedSimpArgs false
set_option linter.unusedVariables false
set_option maxRecDepth 100000
open Go.RowKit

theorem step_append_I {ops : Array Oper} {o : Oper} {a : Act} {w : World} {K : Act → World → Prop} {Q : Exit → Act → World → Prop} {E : Prop} (hgd : o.guard = none) (s x : Operand)
    (ho : o.op = .call { callee := .builtin .append, args := #[s, x], argTypes := #[22, 22] }) (B : Nat) (hB : B ≤ w.heap.size) (v vx : Value) (g0 c0 : Nat) (xs ys : List Nat) (hs : a.eval s = v) (hv : v = .slice (some ⟨g0, 0, none⟩) xs.length c0)
    (hown : w.ownsRow B 3 1 v xs.length (intsOf xs)) (hx : a.eval x = vx) (hsrc : IntsAt w vx ys) (hlen : xs.length + ys.length ≤ 1000000)
    (hK : ∀ (g c : Nat) (w' : World), w'.ownsRow B 3 1 (.slice (some ⟨g, 0, none⟩) (xs ++ ys).length c) (xs ++ ys).length (intsOf (xs ++ ys)) → w.grownBy w' (some g0) → (g = g0 ∨ g = w.heap.size) → K (a.put o.dst (.slice (some ⟨g, 0, none⟩) (xs ++ ys).length c)) w') :
    if Region.wanted o (yielded ops a.tmps) = true then Oper.wp Tryd.prog o a w K Q else E := by
  have hw : Region.wanted o (yielded ops a.tmps) = true := by simp [Region.wanted, hgd]
  rw [if_pos hw]
  obtain ⟨i0, hi0, hz0, hz1, hz2⟩ := info_parts Tryd.info3
  have eI : intsOf (xs ++ ys) = intsOf xs ++ intsOf ys := by simp [intsOf]
  subst hv
  have big : ∀ (ad : Addr) (cp : Nat), vx = .slice (some ad) ys.length cp → (∀ j u, (intsOf ys)[j]? = some u → w.cell? (ad.add j) = some u) → Oper.wp Tryd.prog o a w K Q := fun ad cp hvx hc => by
    obtain ⟨v', w', hr, h2, h3, h4, h5⟩ := run_append_own_at (P := Tryd.prog) w B 22 o.type 3 i0 (.int .i64 0) 1 8 Tryd.underlying22 hi0 hz0 hz1 hz2 rfl (by decide) _ _ _ hown ad ys.length cp (intsOf ys) (by simp [intsOf]) hc
      (fun u hu => by obtain ⟨y, _, rfl⟩ := List.mem_map.1 hu; rfl) (by unfold maxLen; omega) (by omega) hB
    rw [← eI, ← List.length_append] at h2
    have hform : ∃ g c, v' = .slice (some ⟨g, 0, none⟩) (xs ++ ys).length c := by
      obtain ⟨_, hcase⟩ := h2
      rcases hcase with ⟨rfl, _⟩ | ⟨g, cap', cur, rfl, _⟩
      · exact absurd (h4.1 rfl).1 (by simp)
      · exact ⟨g, cap', rfl⟩
    obtain ⟨g, c, rfl⟩ := hform
    unfold Oper.wp
    simp only [execOp, ho, resolve, invoke, builtin, Sem.run_bind, Sem.run_pure, Result.andThen_ok, List.map_toArray, List.map_cons, List.map_nil, hs, hx, hvx, hr]
    refine hK g c w' h2 h3 ?_
    simpa [Value.ownBlock] using h5
  rcases hsrc with ⟨ad, cp, rfl, rfl⟩ | ⟨b, off, cap, rfl, hc⟩
  · cases ad with
    | some ad => exact big ad cp rfl (fun j u hj => by simp [intsOf] at hj)
    | none =>
      have hr := run_append_room_src (P := Tryd.prog) w 22 22 o.type 3 i0 Tryd.underlying22 hi0 g0 0 xs.length c0 (.slice none 0 cp) 0 [] (Src.ofNil w Tryd.underlying22 cp)
        (by rcases hown.2 with ⟨h, _⟩ | ⟨g, cap', cur, h, _, _, hle, _⟩
            · cases h
            · cases h; exact hle) (fun j hj => by simp at hj) (fun j hj => by simp at hj)
      unfold Oper.wp
      simp [execOp, ho, resolve, invoke, builtin, hs, hx, hr, Result.andThen]
      have h1 := hK g0 c0 w (by simpa using hown) ⟨rfl, rfl, rfl, Nat.le_refl _, fun _ _ _ => rfl⟩ (.inl rfl)
      have hsc : w.setCells g0 (xs.length * i0.size) [] = w := rfl
      rw [hsc]
      simpa [Oper.upon] using h1
  · refine big ⟨b, off, none⟩ cap rfl (fun j u hj => ?_)
    have hj' : j < ys.length := by have := (List.getElem?_eq_some_iff.1 hj).1; simpa [intsOf] using this
    have e : (⟨b, off, none⟩ : Addr).add j = ⟨b, off + j, none⟩ := by
      unfold Addr.add; by_cases h0 : j = 0
      · subst h0; rfl
      · rw [if_neg h0]
    rw [e, hc j hj', ← hj]
    simp [intsOf, hj']
set_option maxHeartbeats 1000000 in
set_option linter.unusedVariables false in
theorem fnAppendTo_bad (L : Int) (ad1 : Option Addr) (n1 cp1 : Nat) (v : Value) (zs : List Int) (w : World) (hv : IntsZ w v zs) (hlen : zs.length ≤ 9223372036854775807) (hL : -9223372036854775808 ≤ L) (hL2 : L ≤ 9223372036854775807) (hn1 : ¬ (2147483647 : Int) < (n1 : Int)) (hb : ¬ (Good L zs)) :
    Calls Tryd.prog 7 #[.agg #[.int .i64 L, v], .slice ad1 n1 cp1] w fun e w' => e = .returned (.bool true) ∧ Kept [] w w' := by
  have k0 : Kept [] w (w.alloc (.cells #[.int .i64 L, v] 24)) := (Kept.refl _ _).alloc _
  have g0 : (w.alloc (.cells #[.int .i64 L, v] 24)).heap[w.heap.size]? = some (.cells #[.int .i64 L, v] 24 (0, 0)) := heap_alloc_new w _
  obtain ⟨ad, m, cap, rfl⟩ : ∃ ad m cap, v = .slice ad m cap := by
    rcases hv with ⟨ad, cap, h3, h4⟩ | ⟨b, off, cap, h3, _, _⟩ <;> exact ⟨_, _, _, h3⟩
  by_cases hm : m ≤ 2147483647
  · have hd : decide (m ≤ 2147483647) = true := by simpa using hm
    by_cases hg : Good L zs
    · exact absurd hg hb
    · clear hb
      go_enter Tryd.func7, Tryd.ntmps7
      go_wp2_with fail
      refine (zz_c L ad m cap _).mono ?_
      rintro e w1 ⟨rfl, k1⟩
      have c0 : w1.cell? ⟨w.heap.size, 0, none⟩ = some (.int .i64 L) := (cell_of_heap (k1.heap (by simp) g0)).trans rfl
      have c1 : w1.cell? ⟨w.heap.size, 1, none⟩ = some (.slice ad m cap) := (cell_of_heap (k1.heap (by simp) g0)).trans rfl
      rw [hd]
      go_wp2_with fail
      refine (setBad_c L _ zs _ (hv.kept (k0.trans0 k1)) hg hlen hL hL2).mono ?_
      rintro e w2 ⟨rfl, k2⟩
      go_wp2_with fail
      go_ret
      exact ⟨rfl, (((k0.trans0 k1).trans0 k2).alloc _)⟩
  · have hd : decide (m ≤ 2147483647) = false := by simpa using hm
    clear hb
    go_enter Tryd.func7, Tryd.ntmps7
    go_wp2_with fail
    refine (zz_c L ad m cap _).mono ?_
    rintro e w1 ⟨rfl, k1⟩
    rw [hd]
    go_wp2_with fail
    go_ret
    exact ⟨rfl, k0.trans0 k1⟩

set_option maxHeartbeats 1000000 in
theorem fnAppendTo_huge (L : Int) (ad1 : Option Addr) (n1 cp1 : Nat) (ad : Option Addr) (m cap : Nat) (w : World) (hn1 : (2147483647 : Int) < (n1 : Int)) :
    Calls Tryd.prog 7 #[.agg #[.int .i64 L, .slice ad m cap], .slice ad1 n1 cp1] w fun e w' => e = .returned (.bool true) ∧ Kept [] w w' := by
  have k0 : Kept [] w (w.alloc (.cells #[.int .i64 L, .slice ad m cap] 24)) := (Kept.refl _ _).alloc _
  by_cases hm : m ≤ 2147483647
  · have hd : decide (m ≤ 2147483647) = true := by simpa using hm
    go_enter Tryd.func7, Tryd.ntmps7
    go_wp2_with fail
    refine (zz_c L ad m cap _).mono ?_
    rintro e w1 ⟨rfl, k1⟩
    rw [hd]
    go_wp2_with fail
    go_ret
    exact ⟨rfl, k0.trans0 k1⟩
  · have hd : decide (m ≤ 2147483647) = false := by simpa using hm
    go_enter Tryd.func7, Tryd.ntmps7
    go_wp2_with fail
    refine (zz_c L ad m cap _).mono ?_
    rintro e w1 ⟨rfl, k1⟩
    rw [hd]
    go_wp2_with fail
    go_ret
    exact ⟨rfl, k0.trans0 k1⟩
set_option maxHeartbeats 2000000 in
set_option linter.unusedVariables false in
theorem fnAppendTo_long (L : Nat) (ad1 : Option Addr) (n1 cp1 : Nat) (v : Value) (on : List Nat) (w : World) (hv : IntsAt w v on) (hL : L ≤ 2000) (hlen : on.length ≤ 400) (hon : ∀ x ∈ on, x < 2500) (hn1 : ¬ (2147483647 : Int) < (n1 : Int)) (hn2 : (100 : Int) < (n1 : Int)) :
    Calls Tryd.prog 7 #[.agg #[.int .i64 L, v], .slice ad1 n1 cp1] w fun e w' => e = .returned (.bool true) ∧ Kept [] w w' := by
  have k0 : Kept [] w (w.alloc (.cells #[.int .i64 L, v] 24)) := (Kept.refl _ _).alloc _
  have g0 : (w.alloc (.cells #[.int .i64 L, v] 24)).heap[w.heap.size]? = some (.cells #[.int .i64 L, v] 24 (0, 0)) := heap_alloc_new w _
  obtain ⟨ad, cap, rfl⟩ := hv.shape
  have hd : decide (on.length ≤ 2147483647) = true := by simp; omega
  have hln := lenOf_le L on 2500 (by omega) hon
  go_enter Tryd.func7, Tryd.ntmps7
  go_wp2_with fail
  refine (zz_c L ad on.length cap _).mono ?_
  rintro e w1 ⟨rfl, k1⟩
  have h1 := k1.heap (by simp) g0
  have c0 : w1.cell? ⟨w.heap.size, 0, none⟩ = some (.int .i64 L) := (cell_of_heap h1).trans rfl
  have c1 : w1.cell? ⟨w.heap.size, 1, none⟩ = some (.slice ad on.length cap) := (cell_of_heap h1).trans rfl
  rw [hd]
  go_wp2_with fail
  refine (setGood_c L _ on _ (hv.kept (k0.trans0 k1)) hL hlen hon).mono ?_
  rintro e w2 ⟨s, rfl, hs, k2⟩
  obtain ⟨b, c, rfl⟩ := hs.shape
  have hlt2 := lt_of_heap (k2.heap (by simp) h1)
  clear c0 c1
  have h2a := k2.heap (by simp) h1
  have d0 : w2.cell? ⟨w.heap.size, 0, none⟩ = some (.int .i64 L) := (cell_of_heap h2a).trans rfl
  have d1 : w2.cell? ⟨w.heap.size, 1, none⟩ = some (.slice ad on.length cap) := (cell_of_heap h2a).trans rfl
  go_wp2_with fail
  have hs5 := hs.kept ((Kept.refl _ _).alloc (.cells #[.slice (some ⟨b, 0, none⟩) (lenOf L on) c, .bool true] 28))
  have k3 : Kept [] w2 (w2.alloc (.cells #[.slice (some ⟨b, 0, none⟩) (lenOf L on) c, .bool true] 28)) := (Kept.refl _ _).alloc _
  have gA := k3.heap (by simp) (k2.heap (by simp) h1)
  have gB := heap_alloc_new w2 (.cells #[.slice (some ⟨b, 0, none⟩) (lenOf L on) c, .bool true] 28)
  have hv5 := hv.kept (((k0.trans0 k1).trans0 k2).trans0 k3)
  have kW := ((k0.trans0 k1).trans0 k2).trans0 k3
  clear k3 hs k1 k2 h1 g0 k0 d0 d1 h2a
  obtain ⟨N, hN⟩ : ∃ N, lenOf L on = N := ⟨_, rfl⟩
  (try rw [hN] at hs5); (try rw [hN] at gB); (try rw [hN] at gA); (try rw [hN] at hln); (try rw [hN] at kW); (try rw [hN] at hv5)
  rw [hN]
  have HN := Lib.hid hN; clear hN
  generalize (w2.alloc (.cells #[.slice (some ⟨b, 0, none⟩) N c, .bool true] 28)) = W at *
  have A0 : ∀ w', Kept [] W w' → w'.cell? ⟨w.heap.size, 0, none⟩ = some (.int .i64 L) := fun w' k => (cell_of_heap (k.heap (by simp) gA)).trans rfl
  have A1 : ∀ w', Kept [] W w' → w'.cell? ⟨w.heap.size, 1, none⟩ = some (.slice ad on.length cap) := fun w' k => (cell_of_heap (k.heap (by simp) gA)).trans rfl
  have B0 : ∀ w', Kept [] W w' → w'.cell? ⟨w2.heap.size, 0, none⟩ = some (.slice (some ⟨b, 0, none⟩) N c) := fun w' k => (cell_of_heap (k.heap (by simp) gB)).trans rfl
  have B1 : ∀ w', Kept [] W w' → w'.cell? ⟨w2.heap.size, 1, none⟩ = some (.bool true) := fun w' k => (cell_of_heap (k.heap (by simp) gB)).trans rfl
  go_ret
  exact ⟨rfl, kW⟩

theorem IntsZ.pos {w : World} {ad : Option Addr} {n cap : Nat} {l : List Int} (h : IntsZ w (.slice ad n cap) l) (k : Nat) (hk : k < l.length) : ∃ b off, ad = some ⟨b, off, none⟩ ∧ w.cell? ⟨b, off + k, none⟩ = some (.int .i64 (l.getD k 0)) := by
  rcases h with ⟨_, _, _, rfl⟩ | ⟨b, off, c, h1, _, h2⟩
  · exact absurd hk (Nat.not_lt_zero _)
  · simp only [Value.slice.injEq] at h1
    exact ⟨b, off, h1.1, h2 k hk⟩
theorem IntsZ.nats {w : World} {v : Value} {l : List Int} (h : IntsZ w v l) (h0 : ∀ z ∈ l, 0 ≤ z) : IntsAt w v (l.map Int.toNat) := by
  rcases h with ⟨ad, cap, rfl, rfl⟩ | ⟨b, off, cap, rfl, hb, hc⟩
  · exact .inl ⟨_, _, rfl, rfl⟩
  · refine .inr ⟨b, off, cap, by simp, fun j hj => ?_⟩
    have hj' : j < l.length := by simpa using hj
    rw [hc j hj', getD_in _ _ _ hj, getD_in _ _ _ hj', List.getElem_map, Int.toNat_of_nonneg (h0 _ (List.getElem_mem hj'))]
theorem first_neg (zs : List Int) (h : ¬ ∀ z ∈ zs, 0 ≤ z) : ∃ p, p < zs.length ∧ (∀ j, j < p → 0 ≤ zs.getD j 0) ∧ zs.getD p 0 < 0 := by
  induction zs with
  | nil => exact absurd (fun z hz => by cases hz) h
  | cons a r ih =>
    by_cases ha : 0 ≤ a
    · obtain ⟨p, h1, h2, h3⟩ := ih (fun hr => h (fun z hz => by rcases List.mem_cons.1 hz with rfl | hz; exact ha; exact hr z hz))
      refine ⟨p + 1, by simp; omega, fun j hj => ?_, by simpa using h3⟩
      cases j with
      | zero => simpa using ha
      | succ j => simpa using h2 j (by omega)
    · exact ⟨0, by simp, fun j hj => by omega, by simpa using ha⟩
set_option maxHeartbeats 2000000 in
set_option linter.unusedVariables false in
theorem fnAppendTo_neg (L : Nat) (ad1 : Option Addr) (n1 cp1 : Nat) (v : Value) (on : List Nat) (w : World) (hv : IntsAt w v on) (hL : L ≤ 2000) (hlen : on.length ≤ 400) (hon : ∀ x ∈ on, x < 2500) (hn2 : (n1 : Int) ≤ 100) (zs1 : List Int) (hn : n1 = zs1.length) (hvs : IntsZ w (.slice ad1 n1 cp1) zs1) (p : Nat) (hp : p < n1) (hbef : ∀ j, j < p → 0 ≤ zs1.getD j 0) (hneg : zs1.getD p 0 < 0) :
    Calls Tryd.prog 7 #[.agg #[.int .i64 L, v], .slice ad1 n1 cp1] w fun e w' => e = .returned (.bool true) ∧ Kept [] w w' := by
  have hn1 : ¬ (2147483647 : Int) < (n1 : Int) := by omega
  have HB := Lib.hid hbef; have HNG := Lib.hid hneg; have HLN := Lib.hid hn; clear hbef hneg hn
  have k0 : Kept [] w (w.alloc (.cells #[.int .i64 L, v] 24)) := (Kept.refl _ _).alloc _
  have g0 : (w.alloc (.cells #[.int .i64 L, v] 24)).heap[w.heap.size]? = some (.cells #[.int .i64 L, v] 24 (0, 0)) := heap_alloc_new w _
  obtain ⟨ad, cap, rfl⟩ := hv.shape
  have hd : decide (on.length ≤ 2147483647) = true := by simp; omega
  have hln := lenOf_le L on 2500 (by omega) hon
  go_enter Tryd.func7, Tryd.ntmps7
  go_wp2_with fail
  refine (zz_c L ad on.length cap _).mono ?_
  rintro e w1 ⟨rfl, k1⟩
  have h1 := k1.heap (by simp) g0
  have c0 : w1.cell? ⟨w.heap.size, 0, none⟩ = some (.int .i64 L) := (cell_of_heap h1).trans rfl
  have c1 : w1.cell? ⟨w.heap.size, 1, none⟩ = some (.slice ad on.length cap) := (cell_of_heap h1).trans rfl
  rw [hd]
  go_wp2_with fail
  refine (setGood_c L _ on _ (hv.kept (k0.trans0 k1)) hL hlen hon).mono ?_
  rintro e w2 ⟨s, rfl, hs, k2⟩
  obtain ⟨b, c, rfl⟩ := hs.shape
  have hlt2 := lt_of_heap (k2.heap (by simp) h1)
  clear c0 c1
  have h2a := k2.heap (by simp) h1
  have d0 : w2.cell? ⟨w.heap.size, 0, none⟩ = some (.int .i64 L) := (cell_of_heap h2a).trans rfl
  have d1 : w2.cell? ⟨w.heap.size, 1, none⟩ = some (.slice ad on.length cap) := (cell_of_heap h2a).trans rfl
  go_wp2_with fail
  have hs5 := hs.kept ((Kept.refl _ _).alloc (.cells #[.slice (some ⟨b, 0, none⟩) (lenOf L on) c, .bool true] 28))
  have k3 : Kept [] w2 (w2.alloc (.cells #[.slice (some ⟨b, 0, none⟩) (lenOf L on) c, .bool true] 28)) := (Kept.refl _ _).alloc _
  have gA := k3.heap (by simp) (k2.heap (by simp) h1)
  have gB := heap_alloc_new w2 (.cells #[.slice (some ⟨b, 0, none⟩) (lenOf L on) c, .bool true] 28)
  have hv5 := hv.kept (((k0.trans0 k1).trans0 k2).trans0 k3)
  have kW := ((k0.trans0 k1).trans0 k2).trans0 k3
  clear k3 hs k1 k2 h1 g0 k0 d0 d1 h2a
  obtain ⟨N, hN⟩ : ∃ N, lenOf L on = N := ⟨_, rfl⟩
  (try rw [hN] at hs5); (try rw [hN] at gB); (try rw [hN] at gA); (try rw [hN] at hln); (try rw [hN] at kW); (try rw [hN] at hv5)
  rw [hN]
  have HN := Lib.hid hN; clear hN
  generalize (w2.alloc (.cells #[.slice (some ⟨b, 0, none⟩) N c, .bool true] 28)) = W at *
  have A0 : ∀ w', Kept [] W w' → w'.cell? ⟨w.heap.size, 0, none⟩ = some (.int .i64 L) := fun w' k => (cell_of_heap (k.heap (by simp) gA)).trans rfl
  have A1 : ∀ w', Kept [] W w' → w'.cell? ⟨w.heap.size, 1, none⟩ = some (.slice ad on.length cap) := fun w' k => (cell_of_heap (k.heap (by simp) gA)).trans rfl
  have B0 : ∀ w', Kept [] W w' → w'.cell? ⟨w2.heap.size, 0, none⟩ = some (.slice (some ⟨b, 0, none⟩) N c) := fun w' k => (cell_of_heap (k.heap (by simp) gB)).trans rfl
  have B1 : ∀ w', Kept [] W w' → w'.cell? ⟨w2.heap.size, 1, none⟩ = some (.bool true) := fun w' k => (cell_of_heap (k.heap (by simp) gB)).trans rfl
  have hvsW := hvs.kept kW
  go_loop [29] (fun i => ∃ k : Nat, k ≤ p ∧ i = .int .i64 k) (fun i => n1 - (intOf i).toNat)
  case atStart => exact ⟨0, Nat.zero_le _, rfl⟩
  case round =>
    obtain ⟨k, hk, rfl⟩ := hrel
    have hkn := HLN.out
    obtain ⟨bs, os, rfl, hcx⟩ := hvsW.pos k (by omega)
    have hlt' : (k : Int) < (n1 : Int) := by omega
    have hk0 : (0 : Int) ≤ (k : Int) := by omega
    by_cases hkp : k < p
    · have hx0 := HB.out k hkp
      clear hkn
      generalize zs1.getD k 0 = x at *
      have hx1 : ¬ x < 0 := by omega
      go_wp2_with fail
      go_round
      case rel => exact ⟨k + 1, by omega, by go_num⟩
      case measure => simp [intOf]; omega
    · obtain rfl : k = p := by omega
      have hx := HNG.out
      clear HNG HB hkn
      generalize zs1.getD k 0 = x at *
      go_wp2_with fail
      go_ret
      exact ⟨rfl, kW⟩

set_option maxHeartbeats 2000000 in
set_option linter.unusedVariables false in
theorem fnAppendTo_good (L : Nat) (ad1 : Option Addr) (n1 cp1 : Nat) (v : Value) (on : List Nat) (w : World) (hv : IntsAt w v on) (hL : L ≤ 2000) (hlen : on.length ≤ 400) (hon : ∀ x ∈ on, x < 2500) (hn2 : (n1 : Int) ≤ 100) (l0 : List Nat) (hn : l0.length = n1) (hvs : IntsAt w (.slice ad1 n1 cp1) l0) (h63 : ∀ x ∈ l0, x < 9223372036854775808) (hT : TabW w) :
    Calls Tryd.prog 7 #[.agg #[.int .i64 L, v], .slice ad1 n1 cp1] w fun e w' => e = .returned (.bool true) ∧ Kept [] w w' := by
  have hn1 : ¬ (2147483647 : Int) < (n1 : Int) := by omega
  have HLN := Lib.hid hn; clear hn
  have k0 : Kept [] w (w.alloc (.cells #[.int .i64 L, v] 24)) := (Kept.refl _ _).alloc _
  have g0 : (w.alloc (.cells #[.int .i64 L, v] 24)).heap[w.heap.size]? = some (.cells #[.int .i64 L, v] 24 (0, 0)) := heap_alloc_new w _
  obtain ⟨ad, cap, rfl⟩ := hv.shape
  have hd : decide (on.length ≤ 2147483647) = true := by simp; omega
  have hln := lenOf_le L on 2500 (by omega) hon
  go_enter Tryd.func7, Tryd.ntmps7
  go_wp2_with fail
  refine (zz_c L ad on.length cap _).mono ?_
  rintro e w1 ⟨rfl, k1⟩
  have h1 := k1.heap (by simp) g0
  have c0 : w1.cell? ⟨w.heap.size, 0, none⟩ = some (.int .i64 L) := (cell_of_heap h1).trans rfl
  have c1 : w1.cell? ⟨w.heap.size, 1, none⟩ = some (.slice ad on.length cap) := (cell_of_heap h1).trans rfl
  rw [hd]
  go_wp2_with fail
  refine (setGood_c L _ on _ (hv.kept (k0.trans0 k1)) hL hlen hon).mono ?_
  rintro e w2 ⟨s, rfl, hs, k2⟩
  obtain ⟨b, c, rfl⟩ := hs.shape
  have hlt2 := lt_of_heap (k2.heap (by simp) h1)
  clear c0 c1
  have h2a := k2.heap (by simp) h1
  have d0 : w2.cell? ⟨w.heap.size, 0, none⟩ = some (.int .i64 L) := (cell_of_heap h2a).trans rfl
  have d1 : w2.cell? ⟨w.heap.size, 1, none⟩ = some (.slice ad on.length cap) := (cell_of_heap h2a).trans rfl
  go_wp2_with fail
  have hs5 := hs.kept ((Kept.refl _ _).alloc (.cells #[.slice (some ⟨b, 0, none⟩) (lenOf L on) c, .bool true] 28))
  have k3 : Kept [] w2 (w2.alloc (.cells #[.slice (some ⟨b, 0, none⟩) (lenOf L on) c, .bool true] 28)) := (Kept.refl _ _).alloc _
  have gA := k3.heap (by simp) (k2.heap (by simp) h1)
  have gB := heap_alloc_new w2 (.cells #[.slice (some ⟨b, 0, none⟩) (lenOf L on) c, .bool true] 28)
  have hv5 := hv.kept (((k0.trans0 k1).trans0 k2).trans0 k3)
  have kW := ((k0.trans0 k1).trans0 k2).trans0 k3
  clear k3 hs k1 k2 h1 g0 k0 d0 d1 h2a
  obtain ⟨N, hN⟩ : ∃ N, lenOf L on = N := ⟨_, rfl⟩
  (try rw [hN] at hs5); (try rw [hN] at gB); (try rw [hN] at gA); (try rw [hN] at hln); (try rw [hN] at kW); (try rw [hN] at hv5)
  rw [hN]
  have HN := Lib.hid hN; clear hN
  generalize (w2.alloc (.cells #[.slice (some ⟨b, 0, none⟩) N c, .bool true] 28)) = W at *
  have A0 : ∀ w', Kept [] W w' → w'.cell? ⟨w.heap.size, 0, none⟩ = some (.int .i64 L) := fun w' k => (cell_of_heap (k.heap (by simp) gA)).trans rfl
  have A1 : ∀ w', Kept [] W w' → w'.cell? ⟨w.heap.size, 1, none⟩ = some (.slice ad on.length cap) := fun w' k => (cell_of_heap (k.heap (by simp) gA)).trans rfl
  have B0 : ∀ w', Kept [] W w' → w'.cell? ⟨w2.heap.size, 0, none⟩ = some (.slice (some ⟨b, 0, none⟩) N c) := fun w' k => (cell_of_heap (k.heap (by simp) gB)).trans rfl
  have B1 : ∀ w', Kept [] W w' → w'.cell? ⟨w2.heap.size, 1, none⟩ = some (.bool true) := fun w' k => (cell_of_heap (k.heap (by simp) gB)).trans rfl
  have hvsW := hvs.kept kW
  have hTW := hT.kept0 kW
  have hNb : N ≤ 2500 := hln
  obtain ⟨l, hl⟩ : ∃ l, l0 ++ onL N (memOf on) = l := ⟨_, rfl⟩
  have hll : l.length ≤ 3000 := by rw [← hl, List.length_append]; have := onL_le N (memOf on); have := HLN.out; omega
  have HRES : Hid (l0 ++ onL N (memOf on) = l) := Lib.hid hl
  clear hl
  go_loop [29] (fun i => ∃ k : Nat, k ≤ n1 ∧ i = .int .i64 k) (fun i => n1 - (intOf i).toNat)
  case atStart => exact ⟨0, Nat.zero_le _, rfl⟩
  case round =>
    obtain ⟨k, hk, rfl⟩ := hrel
    have hkn := HLN.out
    have hk0 : (0 : Int) ≤ (k : Int) := by omega
    by_cases hkp : k < n1
    · obtain ⟨bs, os, rfl, hcx⟩ := hvsW.pos k (by omega)
      have hlt' : (k : Int) < (n1 : Int) := by omega
      clear hkn HRES
      generalize l0.getD k 0 = x at *
      have hx1 : ¬ (x : Int) < 0 := by omega
      go_wp2_with fail
      go_round
      case rel => exact ⟨k + 1, by omega, by go_num⟩
      case measure => simp [intOf]; omega
    · obtain rfl : k = n1 := by omega
      have hlt' : ¬ (k : Int) < (k : Int) := by omega
      have hA0 := A0 W (Kept.refl _ _)
      clear hA0
      have HKN := Lib.hid hkn; clear hkn
      go_wp2_with fail
      refine wp_region_held_drew (S := fun w' => Kept [] W w') (by kernel_rfl) (Kept.refl _ _).drew (fun hS => ?_)
      refine takeD 0 36 (v := ?_) rfl rfl (by kernel_rfl) (by kernel_rfl) (by kernel_rfl) (fun _ _ _ h => h) (Or.inl ⟨by kernel_rfl, ?_⟩) hS ?_
      rotate_left 1
      · (intro w' hw'; (try dsimp only at hw'); go_simp; try with_reducible rfl)
      simp only [List.setIfInBounds_toArray, List.set_cons_zero, List.set_cons_succ]
      refine takeD 1 37 (v := ?_) rfl rfl (by kernel_rfl) (by kernel_rfl) (by kernel_rfl) (fun _ _ _ h => h) (Or.inl ⟨by kernel_rfl, ?_⟩) hS ?_
      rotate_left 1
      · (intro w' hw'; (try dsimp only at hw'); go_simp; try with_reducible rfl)
      simp only [List.setIfInBounds_toArray, List.set_cons_zero, List.set_cons_succ]
      refine takeD 4 40 (v := ?_) rfl rfl (by kernel_rfl) (by kernel_rfl) (by kernel_rfl) (fun _ _ _ h => h) (Or.inl ⟨by kernel_rfl, ?_⟩) hS ?_
      rotate_left 1
      · (intro w' hw'; (try dsimp only at hw'); go_simp; try with_reducible rfl)
      simp only [List.setIfInBounds_toArray, List.set_cons_zero, List.set_cons_succ]
      refine takeD 6 42 (v := ?_) rfl rfl (by kernel_rfl) (by kernel_rfl) (by kernel_rfl) (fun _ _ _ h => h) (Or.inl ⟨by kernel_rfl, ?_⟩) hS ?_
      rotate_left 1
      · (intro w' hw'; (try dsimp only at hw'); go_simp; try with_reducible rfl)
      simp only [List.setIfInBounds_toArray, List.set_cons_zero, List.set_cons_succ]
      refine wpAnyH_mask (l' := #[true, true, false, false, true, false, true, false, false, false, false]) (by kernel_rfl) ?_
      refine region_states (fun G hG T hT => ?_)
      have s1 : ∀ (w' : World) (x1 : Value) (p : Nat), Kept [] W w' → w'.ownsRow W.heap.size 3 1 x1 l.length (intsOf l) → w'.heap[p]? = some (.cells #[] 3 (0, 0)) → W.heap.size ≤ p → (∀ j, x1.ownBlock = some j → j ≠ p) → G 5 #[true, true, true, true, true, false, true, false, false, false, false] ((T.setIfInBounds 38 x1).setIfInBounds 39 (.slice (some ⟨p, 0, none⟩) 0 0)) w' := by
        intro w' x1 p hS1 h1 hp hpl hne
        subst hG
        subst hT
        obtain ⟨adx, lnx, cpx, rfl⟩ := slice_of_owns h1
        (try simp only [List.setIfInBounds_toArray, List.set_cons_zero, List.set_cons_succ])
        have hown : w'.ownsRow W.heap.size 3 1 (.slice (some ⟨p, 0, none⟩) 0 0) ([] : List Nat).length (intsOf []) := ⟨rfl, .inr ⟨p, 0, #[], rfl, hpl, hp, Nat.le_refl _, by unfold maxLen; omega, rfl, rfl⟩⟩
        have hpw := lt_of_heap hp
        have hvs1 := hvsW.kept hS1
        have hfr : ∀ j, (Value.slice adx lnx cpx).ownBlock = some j → j < w'.heap.size := fun j hj => (h1.lt j hj).2
        refine wpAnyH_ready (rs := [5]) (by kernel_rfl) (by simp) ?_
        refine AllReadyH.cons rfl (fun K hK => ?_) AllReadyH.nil
        refine step_append_I rfl (.tmp 39) (.tmp 40) rfl W.heap.size hS1.size _ _ p 0 [] l0 rfl rfl hown rfl hvs1 (by have := HKN.out; simp; omega) ?_
        intro g9 c9 w9 hown9 hgrow hob
        simp only [List.nil_append] at hown9 ⊢
        have h1' := h1.kept hgrow (.inr (fun e => hne p e rfl))
        have hne9 : ∀ j, (Value.slice adx lnx cpx).ownBlock = some j → j ≠ g9 := fun j hj => by
          have := hne j hj; have := hfr j hj
          rcases hob with rfl | rfl <;> omega
        refine hK.out _ _ ?_ (fun hS2 => ?_)
        · exact hS1.grown hgrow (fun k hk => by cases hk; right; exact hpl)
        clear hK K hown h1 hob hgrow hvs1 hp
        (try simp only [Act.put, List.setIfInBounds_toArray, List.set_cons_zero, List.set_cons_succ])
        refine wpAnyH_ready (rs := [7]) (by kernel_rfl) (by simp) ?_
        refine AllReadyH.cons rfl (fun K hK => ?_) AllReadyH.nil
        go_simp
        refine (on_c _ N (memOf on) true _ (hs5.kept hS2) (by omega)).mono ?_
        rintro e w10 ⟨v10, rfl, hown10, k10⟩
        have h10 := IntsAt.of_owns hown10
        have h1'' := ownsRow_kept h1' k10
        have hown9' := ownsRow_kept hown9 k10
        have hg9 := (hown9.lt g9 rfl).1
        clear hown10 h1' hown9
        obtain ⟨ad10, cp10, rfl⟩ := h10.shape
        refine hK.out _ _ ?_ (fun hS3 => ?_)
        · exact hS2.trans0 k10
        clear hK K
        (try simp only [Act.put, List.setIfInBounds_toArray, List.set_cons_zero, List.set_cons_succ])
        refine wpAnyH_ready (rs := [8]) (by kernel_rfl) (by simp) ?_
        refine AllReadyH.cons rfl (fun K hK => ?_) AllReadyH.nil
        have hres := HRES.out
        have hrl := congrArg List.length hres
        rw [List.length_append] at hrl
        refine step_append_I rfl (.tmp 41) (.tmp 43) rfl W.heap.size hS3.size _ _ g9 c9 l0 (onL N (memOf on)) rfl rfl hown9' rfl h10 (by omega) ?_
        intro g11 c11 w11 hown11 hgrow11 hob11
        rw [hres] at hown11 ⊢
        have h1f := h1''.kept hgrow11 (.inr (fun e => hne9 g9 e rfl))
        refine hK.out _ _ ?_ (fun hS4 => ?_)
        · exact hS3.grown hgrow11 (fun k hk => by cases hk; right; exact hg9)
        clear hK K hown9' h1'' hob11 hgrow11 h10 hres hrl
        (try simp only [Act.put, List.setIfInBounds_toArray, List.set_cons_zero, List.set_cons_succ])
        refine wpAnyH_ready (rs := [9]) (by kernel_rfl) (by simp) ?_
        refine AllReadyH.cons rfl (fun K hK => ?_) AllReadyH.nil
        go_simp
        refine (same_c _ _ l _ (IntsAt.of_owns h1f) (IntsAt.of_owns hown11) (by omega)).mono ?_
        rintro e w12 ⟨rfl, rfl⟩
        refine hK.out _ _ ?_ (fun hS5 => ?_)
        · exact hS4
        clear hK K
        (try simp only [Act.put, List.setIfInBounds_toArray, List.set_cons_zero, List.set_cons_succ])
        refine takeD 10 4 (v := ?_) rfl rfl (by kernel_rfl) (by kernel_rfl) (by kernel_rfl) (fun _ _ _ h => h) (Or.inl ⟨by kernel_rfl, ?_⟩) hS5 ?_
        rotate_left 1
        · (intro w' hw'; (try dsimp only at hw'); go_simp; try with_reducible rfl)
        simp only [List.setIfInBounds_toArray, List.set_cons_zero, List.set_cons_succ]
        refine wpAnyH_done (by kernel_rfl) ?_ _
        go_wp2
        go_ret
        exact ⟨rfl, kW.trans0 hS5⟩
      subst hG
      subst hT
      refine wpAnyH_ready (rs := [2, 3]) (by kernel_rfl) (by simp) ?_
      refine AllReadyH.cons rfl (fun K hK => ?_) ?_
      · go_simp
        refine (implAppendTo_c L _ _ on l0 _ (hv5.kept hS) (by omega) (by omega) (fun x hx => by have := hon x hx; omega) (hvsW.kept hS) (by have := HKN.out; omega) h63 (hTW.kept0 hS) l (by rw [HN.out]; exact HRES.out)).mono ?_
        rintro e w8 ⟨x1, rfl, hown1, k8⟩
        have hfr := fun j (hj : x1.ownBlock = some j) => hown1.lt j hj
        have h1 := ownsRow_base hown1 hS.size
        clear hown1
        obtain ⟨adx, lnx, cpx, rfl⟩ := slice_of_owns h1
        refine hK.out _ _ ?_ (fun hS1 => ?_)
        · exact hS.trans0 k8
        clear hK K
        (try simp only [Act.put, List.setIfInBounds_toArray, List.set_cons_zero, List.set_cons_succ])
        refine wpAnyH_ready (rs := [3]) (by kernel_rfl) (by simp) ?_
        refine AllReadyH.cons rfl (fun K hK => ?_) AllReadyH.nil
        have kn : Kept [] w8 (w8.alloc (.cells #[] 3)) := (Kept.refl _ _).alloc _
        have hn9 : (w8.alloc (.cells #[] 3)).heap[w8.heap.size]? = some (.cells #[] 3 (0, 0)) := heap_alloc_new w8 _
        have hln9 : W.heap.size ≤ w8.heap.size := hS1.size
        go_simp
        refine hK.out _ _ ?_ (fun hS2 => ?_)
        · exact hS1.trans0 kn
        clear hK K
        (try simp only [Act.put, List.setIfInBounds_toArray, List.set_cons_zero, List.set_cons_succ])
        refine wpAnyH_mask (l' := #[true, true, true, true, true, false, true, false, false, false, false]) (by kernel_rfl) ?_
        have hg := s1 _ _ _ hS2 (ownsRow_kept h1 kn) hn9 hln9 (fun j hj => by have := (hfr j hj).2; omega)
        (try simp only [List.setIfInBounds_toArray, List.set_cons_zero, List.set_cons_succ] at hg)
        exact hg
      refine AllReadyH.cons rfl (fun K hK => ?_) AllReadyH.nil
      have kn : Kept [] W.drew (W.drew.alloc (.cells #[] 3)) := (Kept.refl _ _).alloc _
      have hn9 : (W.drew.alloc (.cells #[] 3)).heap[W.drew.heap.size]? = some (.cells #[] 3 (0, 0)) := heap_alloc_new W.drew _
      have hln9 : W.heap.size ≤ W.drew.heap.size := hS.size
      go_simp
      refine hK.out _ _ ?_ (fun hS1 => ?_)
      · exact hS.trans0 kn
      clear hK K
      (try simp only [Act.put, List.setIfInBounds_toArray, List.set_cons_zero, List.set_cons_succ])
      refine wpAnyH_ready (rs := [2]) (by kernel_rfl) (by simp) ?_
      refine AllReadyH.cons rfl (fun K hK => ?_) AllReadyH.nil
      go_simp
      refine (implAppendTo_c L _ _ on l0 _ (hv5.kept hS1) (by omega) (by omega) (fun x hx => by have := hon x hx; omega) (hvsW.kept hS1) (by have := HKN.out; omega) h63 (hTW.kept0 hS1) l (by rw [HN.out]; exact HRES.out)).mono ?_
      rintro e w8 ⟨x1, rfl, hown1, k8⟩
      have hfr := fun j (hj : x1.ownBlock = some j) => hown1.lt j hj
      have h1 := ownsRow_base hown1 hS1.size
      clear hown1
      obtain ⟨adx, lnx, cpx, rfl⟩ := slice_of_owns h1
      refine hK.out _ _ ?_ (fun hS2 => ?_)
      · exact hS1.trans0 k8
      clear hK K
      (try simp only [Act.put, List.setIfInBounds_toArray, List.set_cons_zero, List.set_cons_succ])
      refine wpAnyH_mask (l' := #[true, true, true, true, true, false, true, false, false, false, false]) (by kernel_rfl) ?_
      have hg := s1 _ _ _ hS2 h1 (k8.heap (by simp) hn9) hln9 (fun j hj => by have := (hfr j hj).1; simp at this; show j ≠ W.heap.size; omega)
      (try simp only [List.setIfInBounds_toArray, List.set_cons_zero, List.set_cons_succ] at hg)
      exact hg

theorem fnAppendTo_c (L : Int) (vs : Value) (zs1 : List Int) (v : Value) (zs : List Int) (w : World) (hv : IntsZ w v zs) (hlen : zs.length ≤ 9223372036854775807) (hL : -9223372036854775808 ≤ L) (hL2 : L ≤ 9223372036854775807) (hvs : IntsZ w vs zs1) (hb1 : ∀ z ∈ zs1, z ≤ 9223372036854775807) (hT : TabW w) :
    Calls Tryd.prog 7 #[.agg #[.int .i64 L, v], vs] w fun e w' => e = .returned (.bool true) ∧ Kept [] w w' := by
  have shapeZ : ∀ {v : Value} {l : List Int}, IntsZ w v l → ∃ ad cap, v = .slice ad l.length cap := by
    intro v l h
    rcases h with ⟨ad, cap, rfl, rfl⟩ | ⟨b, off, cap, rfl, _, _⟩ <;> exact ⟨_, _, rfl⟩
  obtain ⟨ad1, cp1, rfl⟩ := shapeZ hvs
  by_cases h1 : zs1.length ≤ 2147483647
  · by_cases hg : Good L zs
    · obtain ⟨Ln, on, rfl, q1, q2, q3, q4⟩ := hv.good hg
      by_cases h2 : zs1.length ≤ 100
      · by_cases h3 : ∀ z ∈ zs1, 0 ≤ z
        · exact fnAppendTo_good Ln ad1 _ cp1 v on w q4 q1 q2 q3 (by omega) (zs1.map Int.toNat) (by simp) (hvs.nats h3) (fun x hx => by obtain ⟨z, hz, rfl⟩ := List.mem_map.1 hx; have := h3 z hz; have := hb1 z hz; omega) hT
        · obtain ⟨p, hp, hbef, hneg⟩ := first_neg zs1 h3
          exact fnAppendTo_neg Ln ad1 _ cp1 v on w q4 q1 q2 q3 (by omega) zs1 rfl hvs p hp hbef hneg
      · exact fnAppendTo_long Ln ad1 _ cp1 v on w q4 q1 q2 q3 (by omega) (by omega)
    · exact fnAppendTo_bad L ad1 _ cp1 v zs w hv hlen hL hL2 (by omega) hg
  · obtain ⟨ad, cap, rfl⟩ := shapeZ hv
    exact fnAppendTo_huge L ad1 _ cp1 ad _ cap w (by omega)

open Go.ChangeShapes Go.WideShapes Go.ChangeAt Go.Joins
/-- A slice of int that came in. -/
theorem intsArg_read {H : Type} {enc : TypeId × Value → H} {W : World} {base b0 : Nat} {held : Bool} {v : Value} {d : DataW H} {p : List MemPlace} (hv : Value.okWide Tryd.prog W .any b0 22 v)
    (h : DataW.Trod enc Tryd.prog W base (fun _ => true) held 22 v d p) : ∃ zs : List Int, IntsZ W v zs ∧ ∀ z ∈ zs, z ≤ 9223372036854775807 := by
  obtain ⟨a0, n0, c0, rfl⟩ := okWide_slice Tryd.underlying22 hv
  obtain ⟨fuel, hf⟩ := h
  rw [show (Value.slice a0 n0 c0).cells.toList = [Value.slice a0 n0 c0] by simp [Value.cells]] at hf
  rcases open_ints Tryd.underlying22 Tryd.underlying3 Tryd.cellsInt hf with ⟨hcs, hx⟩ | ⟨a, len, cap, zs, hcs, _, hl, hm, hz, hx, hcell, hwz⟩
  · simp at hcs
    obtain ⟨rfl, rfl, rfl⟩ := hcs
    exact ⟨[], .inl ⟨none, 0, rfl, rfl⟩, by simp⟩
  · simp at hcs
    obtain ⟨rfl, rfl, rfl⟩ := hcs
    simp only [if_true] at hz
    unfold maxLen at hm
    have hwf : ∀ z ∈ zs.take n0, z ≤ 9223372036854775807 := fun z hz => by
      have h1 := hwz z (List.mem_of_mem_take hz)
      simp only [Lit.wf, Bool.and_eq_true, decide_eq_true_eq] at h1
      have h6 : IntKind.i64.max = 9223372036854775807 := rfl
      omega
    refine ⟨zs.take n0, ?_, hwf⟩
    by_cases h0 : n0 = 0
    · subst h0; exact .inl ⟨some a, c0, rfl, rfl⟩
    · obtain ⟨b, off, spot⟩ := a
      have hspot : spot = none := by simpa [Addr.add] using World.cell?_spot (hcell 0 (by omega))
      subst hspot
      have hb : b < W.heap.size := World.block_lt_of_cell? _ _ (hcell 0 (by omega))
      have hlen : (zs.take n0).length = n0 := by rw [List.length_take]; omega
      refine .inr ⟨b, off, c0, by rw [hlen], hb, fun j hj => ?_⟩
      rw [hlen] at hj
      have := hcell j (by omega)
      have e : (⟨b, off, none⟩ : Addr).add j = ⟨b, off + j, none⟩ := by
        unfold Addr.add; by_cases h0 : j = 0
        · subst h0; rfl
        · rw [if_neg h0]
      rw [e] at this
      rw [this, List.getD_eq_getElem?_getD, List.getD_eq_getElem?_getD, List.getElem?_take_of_lt hj]
open Go.ChangeShapes Go.WideShapes Go.ChangeAt Go.Joins

set_option maxRecDepth 100000 in
theorem fnAppendTo_lifted (os : Os) (started : os.Started) (H : Type) (enc : TypeId × Value → H) :
    ReturnsInHanded {} Tryd.checked os 7 .any (fun w args => (Rows.fnAppendToSpec.pre enc Tryd.prog Tryd.f7 [] false w args ∧ laidMetH Tryd.prog laid1 w) ∧ sizedMet enc Tryd.prog Tryd.f7 (OpenSpec.ofChange Rows.fnAppendToSpec) false w args)
      (Rows.fnAppendToSpec.post enc Tryd.prog Tryd.f7 false true false false) := by
  refine returnsInHanded_of_change_and (C := Tryd.checked) (X := fun w _ => laidMetH Tryd.prog laid1 w) (fun _ _ _ hh h => h.of_heap hh) Tryd.own started (by kernel_rfl) Tryd.func7
    (ChangeSpec.witness_shaped (enc := enc) (C := Tryd.checked) (os := os) (X := fun w _ => laidMetH Tryd.prog laid1 w) false (World.doorLaid Tryd.prog 400 os) #[.agg #[.int .i64 0, .slice none 0 0], .slice none 0 0] 8 rfl (World.shaped_of_RefB (by kernel_rfl) (by kernel_rfl)) (by kernel_rfl) (by kernel_rfl) (by kernel_rfl) (door_met os _)) ?_
  intro W base args ds gs before hval0 hW _ _ hL _
  have hval : ∀ (j : Nat) t v, Tryd.f7.params[j]? = some t → args[j]? = some v → Value.okWide Tryd.prog W .any base t v := hval0
  have hW' := hW
  obtain ⟨p, q, hA0, hV, rfl, _, _⟩ := hW
  have hA : DataW.TrodAll enc Tryd.prog W 0 (fun _ => true) true Tryd.f7.params.toList args.toList ds p := hA0
  rw [Tryd.params7] at hA hval
  obtain ⟨v0, v1, d0, d1, p0, p1, rfl, rfl, rfl, h0, h1⟩ := trodAll_two hA
  obtain ⟨rfl, rfl⟩ := trodVars_none hV
  obtain ⟨zs1, hz1, hlen1⟩ := intsArg_read (hval 1 22 v1 rfl rfl) h1
  obtain ⟨L0, s0, zs0, rfl, hz0, hlen0, hL0, hR0⟩ := bits_read (hval 0 24 v0 rfl rfl) h0
  clear hA0 hval0
  simp only [List.append_nil] at hW'
  have hlt0 : ∀ x ∈ p0, x.block < W.heap.size := fun x hx => by simpa using hW'.lt x (by simp [hx])
  have hlt1 : ∀ x ∈ p1, x.block < W.heap.size := fun x hx => by simpa using hW'.lt x (by simp [hx])
  have hT := tab_of_laid hL
  refine (fnAppendTo_c L0 v1 zs1 s0 zs0 W hz0 hlen0 hL0 hR0 hz1 hlen1 hT).mono fun e W' ⟨he, hk⟩ => ?_
  subst he
  have hb := hk.below
  refine ⟨_, rfl, _, _, _, [], p0 ++ p1, [], hW', ?_, ?_, rfl, hb.frame _, fun h => by cases h⟩
  · exact trodAll_mk1 (shut_bool Tryd.underlying4 true)
  · exact trodAll_mk2 (Below.trod Tryd.laidOut (by kernel_rfl) (of_decide_eq_true (by kernel_rfl)) h0 hb hlt0) (Below.trod Tryd.laidOut (by kernel_rfl) (of_decide_eq_true (by kernel_rfl)) h1 hb hlt1)

theorem fnAppendTo_row : Rows.FnAppendToSaid :=
  OpenClaim.holds_of_wide 7 Tryd.f7 rfl rfl rfl rfl rfl rfl rfl ⟨rfl, rfl, rfl, rfl, rfl⟩ rfl rfl rfl rfl rfl (by kernel_rfl) Tryd.func7 (by kernel_rfl)
    (of_decide_eq_true (by kernel_rfl)) (by unfold Func.isWrapper; first | (rw [if_pos (by decide +kernel)]; kernel_rfl) | (rw [if_neg (by decide +kernel)]; exact ⟨rfl, rfl⟩))
    (fun os started H enc _ => fnAppendTo_lifted os started H enc)

theorem fnAppendToCard_holds : Rows.FnAppendToCardSaid :=
  Claim7.holds_tied_plain_at .later [] [.data] true (true, "071c253dde6df62798ad3f12a1a7cac913dd6821ae4f6b8b9b17d7da068a5a9d") false
    fnAppendTo_row (fun _ h => by cases h) (by kernel_rfl) (fun _ h => by cases h) fnAppendTo_row_tie rfl ⟨rfl, rfl⟩ (by kernel_rfl) rfl
    (fun f fn hf hfn => by
      obtain rfl : f = 7 := Option.some.inj ((show Tryd.prog.funcNamed "loop.example/pub-setsofbits/laws.FnAppendTo" = some 7 by kernel_rfl).symm.trans hf) |>.symm
      obtain rfl : fn = Tryd.f7 := (Option.some.inj (Tryd.func7.symm.trans hfn)).symm
      exact ⟨by kernel_rfl, fun j t ht => by
        rw [Tryd.params7] at ht
        have hm : t ∈ [24, 22] := by simpa using Array.mem_of_getElem? ht
        have hall : ([24, 22].all fun u => !Tryd.prog.wantsStandIn u) = true := by kernel_rfl
        exact (show Tryd.prog.wantsStandIn t = false by simpa using List.all_eq_true.1 hall t hm)⟩)
    (by kernel_rfl)

end Go.Proofs.YtafbdkcbgjpolaaDoor

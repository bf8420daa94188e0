/-
  laws.FnSetAll: for every input.
-/
import Derived.Test.YtfdddnpmgaoddaaLast
import Derived.Test.YtfdddnpmgaoddaaDoS
import Derived.Test.YtfdddnpmgaoddaaRow
namespace Go.Proofs.Ytfdddnpmgaoddaa
set_option linter.unusedSimpArgs false
set_option linter.unusedVariables false
open Go.RowKit

set_option maxHeartbeats 1000000 in
theorem implSetAll_c (L : Nat) (v : Value) (on : List Nat) (w : World) (hv : IntsAt w v on) (hL : L ≤ 9000) (hlen : on.length ≤ 1000000) (hon : ∀ x ∈ on, x < 9000) :
    Calls Try.prog 25 #[.agg #[.int .i64 L, v]] w fun e w' => ∃ (M : Nat) (v' : Value), e = .returned (.agg #[.int .i64 M, v']) ∧ (M = lenOf L on) ∧ M ≤ 20000 ∧
      IntsAt w' v' (onL (lenOf L on) (fun _ => true)) ∧ Kept [] w w' := by
  have k0 : Kept [] w ((w.alloc (.cells #[.int .i64 L, v] 24)).alloc (.cells #[.int .i64 0, .slice none 0 0] 24)) := ((Kept.refl _ _).alloc _).alloc _
  have g0 : ((w.alloc (.cells #[.int .i64 L, v] 24)).alloc (.cells #[.int .i64 0, .slice none 0 0] 24)).heap[w.heap.size + 1]? = some (.cells #[.int .i64 0, .slice none 0 0] 24 (0, 0)) := by
    have := heap_alloc_new (w.alloc (.cells #[.int .i64 L, v] 24)) (.cells #[.int .i64 0, .slice none 0 0] 24)
    simpa using this
  have hln := lenOf_le L on 9000 hL hon
  go_enter Try.func25, Try.ntmps25
  go_wp2_with fail
  refine (build_c L v on _ (hv.kept k0) (by omega) (fun x hx => by have := hon x hx; omega) hlen).mono ?_
  rintro e w1 ⟨b, g, rfl, hb, n1, n2, k1⟩
  have s0 : w.heap.size + 2 ≤ b ∧ w.heap.size + 2 ≤ g := by simp at n1 n2; omega
  go_wp2_with fail
  refine (setAll_c b g _ _ w1 hb (by omega)).mono ?_
  rintro e w2 ⟨rfl, hb2, k2⟩
  obtain ⟨M, hM⟩ : ∃ M, lenOf L on = M := ⟨_, rfl⟩
  have hMb : M ≤ 20000 := by omega
  rw [hM] at hb2
  have hPM : Hid (M = lenOf L on) := hM.symm
  clear hM
  obtain ⟨g', hgg⟩ : ∃ g', g = g' := ⟨g, rfl⟩
  have hb2 : BSet w2 b g' M _ := hgg ▸ hb2
  go_wp2_with fail
  refine (told_c b g' _ _ w2 hb2 hMb).mono ?_
  rintro e w3 ⟨v3, rfl, hown, k3⟩
  have gR := k3.heap (by simp) (k2.heap (by simp; omega) (k1.heap (by simp) g0))
  have kA : Kept [] w w3 := ((k0.trans0 k1).trans k2 (fun j hj => by simp at hj; right; omega)).trans0 k3
  obtain ⟨ad, ln, cp, rfl⟩ := slice_of_owns hown
  obtain ⟨c0, c1, z0, z1, e0, e1⟩ := box2 gR (.int .i64 M) (.slice ad ln cp)
  clear gR g0 hb hb2
  go_wp2_with fail
  refine bodyPost_ret (v := .agg #[.int .i64 M, .slice ad ln cp]) (by simp [results, Try.results25, go_sem, e0, e1]) rfl ⟨M, _, rfl, hPM.out, hMb, ?_, (kA.setCell (by right; simp) _).setCell (by right; simp) _⟩
  have hs2 := k2.size; have hs1 := k1.size
  simp at hs1
  have h3 := IntsAt.of_owns (ownsRow_setCell_below (a := ⟨w.heap.size + 1, 1, none⟩) (ownsRow_setCell_below (a := ⟨w.heap.size + 1, 0, none⟩) hown (by show w.heap.size + 1 < w2.heap.size + 2; omega) (.int .i64 M)) (by show w.heap.size + 1 < w2.heap.size + 2; omega) (.slice ad ln cp))
  have hE : ∀ F, onL M F = onL (lenOf L on) F := fun F => by rw [hPM.out]
  rw [hE] at h3
  exact h3
set_option maxHeartbeats 1000000 in
set_option linter.unusedVariables false in
theorem fnSetAll_bad (L : Int) (v : Value) (zs : List Int) (w : World) (hv : IntsZ w v zs) (hlen : zs.length ≤ 9223372036854775807) (hL : -9223372036854775808 ≤ L) (hL2 : L ≤ 9223372036854775807) (hb : ¬ (Good L zs)) :
    Calls Try.prog 5 #[.agg #[.int .i64 L, v]] w fun e w' => e = .returned (.bool true) ∧ Kept [] w w' := by
  have k0 : Kept [] w (w.alloc (.cells #[.int .i64 L, v] 24)) := (Kept.refl _ _).alloc _
  have g0 : (w.alloc (.cells #[.int .i64 L, v] 24)).heap[w.heap.size]? = some (.cells #[.int .i64 L, v] 24 (0, 0)) := heap_alloc_new w _
  obtain ⟨ad, m, cap, rfl⟩ : ∃ ad m cap, v = .slice ad m cap := by
    rcases hv with ⟨ad, cap, h3, h4⟩ | ⟨b, off, cap, h3, _, _⟩ <;> exact ⟨_, _, _, h3⟩
  by_cases hm : m ≤ 2147483647
  · have hd : decide (m ≤ 2147483647) = true := by simpa using hm
    by_cases hg : Good L zs
    · exact absurd hg hb
    · clear hb
      go_enter Try.func5, Try.ntmps5
      go_wp2_with fail
      refine (zz_c L ad m cap _).mono ?_
      rintro e w1 ⟨rfl, k1⟩
      have c0 : w1.cell? ⟨w.heap.size, 0, none⟩ = some (.int .i64 L) := (cell_of_heap (k1.heap (by simp) g0)).trans rfl
      have c1 : w1.cell? ⟨w.heap.size, 1, none⟩ = some (.slice ad m cap) := (cell_of_heap (k1.heap (by simp) g0)).trans rfl
      rw [hd]
      go_wp2_with fail
      refine (setBad_c L _ zs _ (hv.kept (k0.trans0 k1)) hg hlen hL hL2).mono ?_
      rintro e w2 ⟨rfl, k2⟩
      go_wp2_with fail
      go_ret
      exact ⟨rfl, (((k0.trans0 k1).trans0 k2).alloc _)⟩
  · have hd : decide (m ≤ 2147483647) = false := by simpa using hm
    clear hb
    go_enter Try.func5, Try.ntmps5
    go_wp2_with fail
    refine (zz_c L ad m cap _).mono ?_
    rintro e w1 ⟨rfl, k1⟩
    rw [hd]
    go_wp2_with fail
    go_ret
    exact ⟨rfl, k0.trans0 k1⟩

set_option maxHeartbeats 2000000 in
set_option linter.unusedVariables false in
theorem fnSetAll_good (L : Nat) (v : Value) (on : List Nat) (w : World) (hv : IntsAt w v on) (hL : L ≤ 2000) (hlen : on.length ≤ 400) (hon : ∀ x ∈ on, x < 2500) :
    Calls Try.prog 5 #[.agg #[.int .i64 L, v]] w fun e w' => e = .returned (.bool true) ∧ Kept [] w w' := by
  have k0 : Kept [] w (w.alloc (.cells #[.int .i64 L, v] 24)) := (Kept.refl _ _).alloc _
  have g0 : (w.alloc (.cells #[.int .i64 L, v] 24)).heap[w.heap.size]? = some (.cells #[.int .i64 L, v] 24 (0, 0)) := heap_alloc_new w _
  obtain ⟨ad, cap, rfl⟩ := hv.shape
  have hd : decide (on.length ≤ 2147483647) = true := by simp; omega
  have hln := lenOf_le L on 2500 (by omega) hon
  go_enter Try.func5, Try.ntmps5
  go_wp2_with fail
  refine (zz_c L ad on.length cap _).mono ?_
  rintro e w1 ⟨rfl, k1⟩
  have h1 := k1.heap (by simp) g0
  have c0 : w1.cell? ⟨w.heap.size, 0, none⟩ = some (.int .i64 L) := (cell_of_heap h1).trans rfl
  have c1 : w1.cell? ⟨w.heap.size, 1, none⟩ = some (.slice ad on.length cap) := (cell_of_heap h1).trans rfl
  rw [hd]
  go_wp2_with fail
  refine (setGood_c L _ on _ (hv.kept (k0.trans0 k1)) hL hlen hon).mono ?_
  rintro e w2 ⟨s, rfl, hs, k2⟩
  obtain ⟨b, c, rfl⟩ := hs.shape
  have hlt2 := lt_of_heap (k2.heap (by simp) h1)
  clear c0 c1
  go_wp2_with fail
  refine (do11_c _ (lenOf L on) (memOf on) true _ (hs.kept ((Kept.refl _ _).alloc _)) (by omega) rfl).mono ?_
  rintro e w4 ⟨s', rfl, hs', k4⟩
  obtain ⟨b', c', rfl⟩ := hs'.shape
  have k3 : Kept [] w2 (w2.alloc (.cells #[.slice (some ⟨b, 0, none⟩) (lenOf L on) c, .bool true] 28)) := (Kept.refl _ _).alloc _
  have h4 := k4.heap (by simp) (k3.heap (by simp) (k2.heap (by simp) h1))
  go_wp2_with fail
  have k5 : Kept [] w4 (w4.alloc (.cells #[.slice (some ⟨b', 0, none⟩) (lenOf L on) c', .bool true] 28)) := (Kept.refl _ _).alloc _
  have gA := k5.heap (by simp) h4
  have gB := heap_alloc_new w4 (.cells #[.slice (some ⟨b', 0, none⟩) (lenOf L on) c', .bool true] 28)
  have hs5 := hs'.kept k5
  have hv5 := hv.kept (((((k0.trans0 k1).trans0 k2).trans0 k3).trans0 k4).trans0 k5)
  have kW := ((((k0.trans0 k1).trans0 k2).trans0 k3).trans0 k4).trans0 k5
  clear k5 h4 k3 hs' hs k1 k2 h1 g0 k0
  obtain ⟨M, hM⟩ : ∃ M, lenOf L on = M := ⟨_, rfl⟩
  rw [hM] at hs5 gA gB hv5 kW ⊢
  generalize (w4.alloc (.cells #[.slice (some ⟨b', 0, none⟩) M c', .bool true] 28)) = W at *
  have A0 : ∀ w', Kept [] W w' → w'.cell? ⟨w.heap.size, 0, none⟩ = some (.int .i64 L) := fun w' k => (cell_of_heap (k.heap (by simp) gA)).trans rfl
  have A1 : ∀ w', Kept [] W w' → w'.cell? ⟨w.heap.size, 1, none⟩ = some (.slice ad on.length cap) := fun w' k => (cell_of_heap (k.heap (by simp) gA)).trans rfl
  have B0 : ∀ w', Kept [] W w' → w'.cell? ⟨w4.heap.size, 0, none⟩ = some (.slice (some ⟨b', 0, none⟩) M c') := fun w' k => (cell_of_heap (k.heap (by simp) gB)).trans rfl
  have B1 : ∀ w', Kept [] W w' → w'.cell? ⟨w4.heap.size, 1, none⟩ = some (.bool true) := fun w' k => (cell_of_heap (k.heap (by simp) gB)).trans rfl
  clear gA gB
  have HM := Lib.hid hM
  clear hM
  refine wp_region_held_drew (S := fun w' => Kept [] W w') (by kernel_rfl) (Kept.refl _ _).drew (fun hS => ?_)
  refine takeD 0 23 (v := ?_) rfl rfl (by kernel_rfl) (by kernel_rfl) (by kernel_rfl) (fun _ _ _ h => h) (Or.inl ⟨by kernel_rfl, ?_⟩) hS ?_
  rotate_left 1
  · (intro w' hw'; (try dsimp only at hw'); go_simp; try with_reducible rfl)
  simp only [List.setIfInBounds_toArray, List.set_cons_zero, List.set_cons_succ]
  refine takeD 1 24 (v := ?_) rfl rfl (by kernel_rfl) (by kernel_rfl) (by kernel_rfl) (fun _ _ _ h => h) (Or.inl ⟨by kernel_rfl, ?_⟩) hS ?_
  rotate_left 1
  · (intro w' hw'; (try dsimp only at hw'); go_simp; try with_reducible rfl)
  simp only [List.setIfInBounds_toArray, List.set_cons_zero, List.set_cons_succ]
  refine takeD 2 25 (v := ?_) rfl rfl (by kernel_rfl) (by kernel_rfl) (by kernel_rfl) (fun _ _ _ h => h) (Or.inl ⟨by kernel_rfl, ?_⟩) hS ?_
  rotate_left 1
  · (intro w' hw'; (try dsimp only at hw'); go_simp; try with_reducible rfl)
  simp only [List.setIfInBounds_toArray, List.set_cons_zero, List.set_cons_succ]
  refine takeD 3 26 (v := ?_) rfl rfl (by kernel_rfl) (by kernel_rfl) (by kernel_rfl) (fun _ _ _ h => h) (Or.inl ⟨by kernel_rfl, ?_⟩) hS ?_
  rotate_left 1
  · (intro w' hw'; (try dsimp only at hw'); go_simp; try with_reducible rfl)
  simp only [List.setIfInBounds_toArray, List.set_cons_zero, List.set_cons_succ]
  refine takeD 5 28 (v := ?_) rfl rfl (by kernel_rfl) (by kernel_rfl) (by kernel_rfl) (fun _ _ _ h => h) (Or.inl ⟨by kernel_rfl, ?_⟩) hS ?_
  rotate_left 1
  · (intro w' hw'; (try dsimp only at hw'); go_simp; try with_reducible rfl)
  simp only [List.setIfInBounds_toArray, List.set_cons_zero, List.set_cons_succ]
  refine wpAnyH_ready (rs := [4]) (by kernel_rfl) (by simp) ?_
  refine AllReadyH.cons rfl (fun K hK => ?_) AllReadyH.nil
  go_simp
  refine (implSetAll_c L _ on _ (hv5.kept hS) (by omega) (by omega) (fun x hx => by have := hon x hx; omega)).mono ?_
  rintro e w6 ⟨M6, v6, rfl, hM6', hM6b, hv6, k6⟩
  have hM6 := Lib.hid hM6'
  clear hM6'
  refine hK.out _ _ ?_ (fun hS1 => ?_)
  · exact hS.trans0 k6
  clear hK K
  (try simp only [Act.put, List.setIfInBounds_toArray, List.set_cons_zero, List.set_cons_succ])
  refine wpAnyH_ready (rs := [6]) (by kernel_rfl) (by simp) ?_
  refine AllReadyH.cons rfl (fun K hK => ?_) AllReadyH.nil
  go_simp
  refine (bits_c M6 v6 _ M (fun _ => true) true _ (by rw [← HM.out]; exact hv6) ((hs5.kept hS1).congr (fun j _ => rfl)) (by have := HM.out; omega) (fun h => by rw [hM6.out]; exact HM.out)).mono ?_
  rintro e w7 ⟨rfl, k7⟩
  refine hK.out _ _ ?_ (fun hS2 => ?_)
  · exact hS1.trans0 k7
  clear hK K
  (try simp only [Act.put, List.setIfInBounds_toArray, List.set_cons_zero, List.set_cons_succ])
  refine takeD 7 30 (v := ?_) rfl rfl (by kernel_rfl) (by kernel_rfl) (by kernel_rfl) (fun _ _ _ h => h) (Or.inl ⟨by kernel_rfl, ?_⟩) hS2 ?_
  rotate_left 1
  · (intro w' hw'; (try dsimp only at hw'); go_simp; try with_reducible rfl)
  simp only [List.setIfInBounds_toArray, List.set_cons_zero, List.set_cons_succ]
  refine takeD 8 2 (v := ?_) rfl rfl (by kernel_rfl) (by kernel_rfl) (by kernel_rfl) (fun _ _ _ h => h) (Or.inl ⟨by kernel_rfl, ?_⟩) hS2 ?_
  rotate_left 1
  · (intro w' hw'; (try dsimp only at hw'); go_simp; try with_reducible rfl)
  simp only [List.setIfInBounds_toArray, List.set_cons_zero, List.set_cons_succ]
  refine wpAnyH_done (by kernel_rfl) ?_ _
  go_wp2
  go_ret
  exact ⟨rfl, kW.trans0 hS2⟩

theorem fnSetAll_c (L : Int) (v : Value) (zs : List Int) (w : World) (hv : IntsZ w v zs) (hlen : zs.length ≤ 9223372036854775807) (hL : -9223372036854775808 ≤ L) (hL2 : L ≤ 9223372036854775807) :
    Calls Try.prog 5 #[.agg #[.int .i64 L, v]] w fun e w' => e = .returned (.bool true) ∧ Kept [] w w' := by
  by_cases hg : Good L zs
  · have hg0 := hg
    have hg1 := hg
    obtain ⟨Ln, on, rfl, q1, q2, q3, q4⟩ := hv.good hg1
    exact fnSetAll_good Ln v on w q4 q1 q2 q3
  · exact fnSetAll_bad L v zs w hv hlen hL hL2 hg

open Go.ChangeShapes Go.WideShapes Go.ChangeAt Go.Joins

set_option maxRecDepth 100000 in
theorem fnSetAll_lifted (os : Os) (started : os.Started) (H : Type) (enc : TypeId × Value → H) :
    ReturnsInHanded {} Try.checked os 5 .any (Rows.fnSetAllSpec.pre6 enc Try.prog Try.f5 Rows.fnSetAllRow.domain false) (Rows.fnSetAllSpec.post enc Try.prog Try.f5 false true false false) := by
  refine returnsInHanded_of_change (C := Try.checked) Try.own started (by kernel_rfl) Try.func5
    (ChangeSpec.witness6 (enc := enc) (C := Try.checked) false ⟨#[], #[.agg #[.int .i64 0, .slice none 0 0]], []⟩ 8 (by kernel_rfl) (by kernel_rfl) (by kernel_rfl) (by kernel_rfl)) ?_
  intro W base args ds gs before hval0 hW _ _
  have hval : ∀ (j : Nat) t v, Try.f5.params[j]? = some t → args[j]? = some v → Value.okWide Try.prog W .any base t v := hval0
  have hW' := hW
  obtain ⟨p0, q, hA0, hV, rfl, _, _⟩ := hW
  have hA : DataW.TrodAll enc Try.prog W 0 (fun _ => true) true Try.f5.params.toList args.toList ds p0 := hA0
  rw [Try.params5] at hA hval
  obtain ⟨v0, d0, rfl, rfl, h0⟩ := trodAll_one hA
  obtain ⟨rfl, rfl⟩ := trodVars_none hV
  obtain ⟨L0, s0, zs0, rfl, hz0, hlen0, hL0, hR0⟩ := bits_read (hval 0 24 v0 rfl rfl) h0
  clear hA0 hval0
  simp only [List.append_nil] at hW'
  have hlt0 : ∀ x ∈ p0, x.block < W.heap.size := fun x hx => by simpa using hW'.lt x hx
  refine (fnSetAll_c L0 s0 zs0 W hz0 hlen0 hL0 hR0).mono fun e W' ⟨he, hk⟩ => ?_
  subst he
  have hb := hk.below
  refine ⟨_, rfl, _, _, _, [], p0, [], hW', ?_, ?_, rfl, hb.frame _, fun h => by cases h⟩
  · exact trodAll_mk1 (shut_bool Try.underlying4 true)
  · exact trodAll_mk1 (Below.trod Try.laidOut (by kernel_rfl) (of_decide_eq_true (by kernel_rfl)) h0 hb hlt0)

theorem fnSetAll_holds : Rows.FnSetAllSaid :=
  OpenClaim.holds_of_wide 5 Try.f5 rfl rfl rfl rfl rfl rfl rfl ⟨rfl, rfl, rfl, rfl, rfl⟩ rfl rfl rfl rfl rfl (by kernel_rfl) Try.func5 (by kernel_rfl)
    (of_decide_eq_true (by kernel_rfl)) (by unfold Func.isWrapper; first | (rw [if_pos (by decide +kernel)]; kernel_rfl) | (rw [if_neg (by decide +kernel)]; exact ⟨rfl, rfl⟩))
    (fun os started H enc _ => fnSetAll_lifted os started H enc)

end Go.Proofs.Ytfdddnpmgaoddaa

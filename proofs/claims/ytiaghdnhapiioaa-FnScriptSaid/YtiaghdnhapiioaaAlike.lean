/-
  The contracts of laws' alike and bits: a told set that has the reference's bits passes.
-/
import Derived.Test.YtiaghdnhapiioaaOfBad
import Derived.Deep.RegionWith
namespace Go.Proofs.Ytiaghdnhapiioaa
set_option linter.unusedSimpArgs false
set_option linter.unusedVariables false
open Go.RowKit

/-- One operation of a drawn region taken first, its slot written out. -/
theorem takeD {P : Program} {ops : Array Oper} {Q : Exit → Act → World → Prop} {md : Region.Mode} {S : World → Prop} {fuel : Nat} {listed : Array Bool} {tmps : Array Value} {ds : List Deferred} {w : World} (i d : Nat) {oi : Oper} {v : Value} (hi : ops[i]? = some oi) (hd : oi.dst = some d)
    (hs : Region.noSelect ops = true) (hf : Region.free md ops listed i = true) (hr : (Region.ready md ops listed).contains i = true)
    (hQ : ∀ c a w, Q (.panic c) (a.put (some d) v) w → Q (.panic c) a w) (hy : YieldsIf P ops S oi v ⟨tmps, ds⟩) (hS : S w)
    (h : wpAnyH P md ops Q S fuel (listed.setIfInBounds i true) ⟨tmps.setIfInBounds d v, ds⟩ w) : wpAnyH P md ops Q S (fuel + 1) listed ⟨tmps, ds⟩ w :=
  wpAnyH_take hi hs hf hr (by rw [hd]; exact hQ) hy hS (by rw [hd]; exact h)

theorem SpecSet.shape {w : World} {s : Value} {n : Nat} {f : Nat → Bool} {t : Bool} (h : SpecSet w s n f t) : ∃ b c, s = .agg #[.slice (some ⟨b, 0, none⟩) n c, .bool t] := by
  obtain ⟨b, c, h1, _⟩ := h; exact ⟨b, c, h1⟩
theorem IntsAt.shape {w : World} {v : Value} {l : List Nat} (h : IntsAt w v l) : ∃ ad c, v = .slice ad l.length c := by
  rcases h with ⟨ad, cap, rfl, rfl⟩ | ⟨b, off, cap, rfl, _⟩ <;> exact ⟨_, _, rfl⟩

set_option maxHeartbeats 1000000 in
theorem alike_c (gl : Nat) (gv s : Value) (n : Nat) (f : Nat → Bool) (t : Bool) (w : World) (hg : IntsAt w gv (onL n f)) (hs : SpecSet w s n f t) (hn : n ≤ 20000) :
    Calls Try.prog 24 #[.agg #[.int .i64 gl, gv], s] w fun e w' => e = .returned (.bool true) ∧ Kept [] w w' := by
  obtain ⟨b, c, rfl⟩ := hs.shape
  have hl := onL_le n f
  have k0 : Kept [] w ((w.alloc (.cells #[.int .i64 gl, gv] 24)).alloc (.cells #[.slice (some ⟨b, 0, none⟩) n c, .bool t] 28)).drew := (((Kept.refl _ _).alloc _).alloc _).drew
  have hs1 := hs.kept k0
  have hg1 := hg.kept k0
  have g0 : ((w.alloc (.cells #[.int .i64 gl, gv] 24)).alloc (.cells #[.slice (some ⟨b, 0, none⟩) n c, .bool t] 28)).drew.heap[w.heap.size]? = some (.cells #[.int .i64 gl, gv] 24 (0, 0)) := alloc_heap_old (heap_alloc_new w _) _
  have HS := Lib.hid hs; have HG := Lib.hid hg; clear hs hg
  go_enter Try.func24, Try.ntmps24
  go_wp2
  go_region_with (first
    | (go_at_call 27; refine (on_c _ n f t _ hs1 hn).mono ?_; rintro e w1 ⟨v1, rfl, hown, k1⟩; have g1 : w1.cell? ⟨w.heap.size, 1, none⟩ = some gv := (cell_of_heap (k1.heap (by simp) g0)).trans rfl)
    | (go_at_call 39; refine (same_c _ _ (onL n f) _ (hg1.kept k1) (IntsAt.of_owns hown) (by omega)).mono ?_; rintro e w' ⟨rfl, rfl⟩))
  all_goals
    go_wp2
    go_ret
    exact ⟨rfl, k0.trans0 k1⟩

set_option maxHeartbeats 1000000 in
theorem bits_c (gl : Nat) (gv s : Value) (n : Nat) (f : Nat → Bool) (t : Bool) (w : World) (hg : IntsAt w gv (onL n f)) (hs : SpecSet w s n f t) (hn : n ≤ 20000) (hlen : t = true → gl = n) :
    Calls Try.prog 14 #[.agg #[.int .i64 gl, gv], s] w fun e w' => e = .returned (.bool true) ∧ Kept [] w w' := by
  obtain ⟨b, c, rfl⟩ := hs.shape
  have hl := onL_le n f
  have k0 : Kept [] w ((w.alloc (.cells #[.int .i64 gl, gv] 24)).alloc (.cells #[.slice (some ⟨b, 0, none⟩) n c, .bool t] 28)) := ((Kept.refl _ _).alloc _).alloc _
  have g0 : ((w.alloc (.cells #[.int .i64 gl, gv] 24)).alloc (.cells #[.slice (some ⟨b, 0, none⟩) n c, .bool t] 28)).heap[w.heap.size]? = some (.cells #[.int .i64 gl, gv] 24 (0, 0)) := alloc_heap_old (heap_alloc_new w _) _
  have g2 : ((w.alloc (.cells #[.int .i64 gl, gv] 24)).alloc (.cells #[.slice (some ⟨b, 0, none⟩) n c, .bool t] 28)).heap[w.heap.size + 1]? = some (.cells #[.slice (some ⟨b, 0, none⟩) n c, .bool t] 28 (0, 0)) := by
    have := heap_alloc_new (w.alloc (.cells #[.int .i64 gl, gv] 24)) (.cells #[.slice (some ⟨b, 0, none⟩) n c, .bool t] 28)
    simpa using this
  have hs1 := hs.kept k0
  have hg1 := hg.kept k0
  have HS := Lib.hid hs; have HG := Lib.hid hg; clear hs hg
  cases t with
  | true =>
    obtain rfl := hlen rfl
    go_enter Try.func14, Try.ntmps14
    go_wp2
    generalize ((w.alloc (.cells #[.int .i64 gl, gv] 24)).alloc (.cells #[.slice (some ⟨b, 0, none⟩) gl c, .bool true] 28)) = W at *
    have L1 : ∀ w', Kept [] W w' → w'.cell? ⟨w.heap.size, 1, none⟩ = some gv := fun w' k => (cell_of_heap (k.heap (by simp) g0)).trans rfl
    have L0 : ∀ w', Kept [] W w' → w'.cell? ⟨w.heap.size, 0, none⟩ = some (.int .i64 gl) := fun w' k => (cell_of_heap (k.heap (by simp) g0)).trans rfl
    have L2 : ∀ w', Kept [] W w' → w'.cell? ⟨w.heap.size + 1, 0, none⟩ = some (.slice (some ⟨b, 0, none⟩) gl c) := fun w' k => (cell_of_heap (k.heap (by simp) g2)).trans rfl
    have L3 : ∀ w', Kept [] W w' → w'.cell? ⟨w.heap.size + 1, 1, none⟩ = some (.bool true) := fun w' k => (cell_of_heap (k.heap (by simp) g2)).trans rfl
    clear g0 g2
    refine wp_region_held_drew (S := fun w' => Kept [] W w') (by kernel_rfl) (Kept.refl _ _).drew (fun hS => ?_)
    refine takeD 0 5 (v := ?_) rfl rfl (by kernel_rfl) (by kernel_rfl) (by kernel_rfl) (fun _ _ _ h => h) (Or.inl ⟨by kernel_rfl, ?_⟩) hS ?_
    rotate_left 1
    · (intro w' hw'; (try dsimp only at hw'); go_simp; try with_reducible rfl)
    simp only [List.setIfInBounds_toArray, List.set_cons_zero, List.set_cons_succ]
    refine takeD 1 6 (v := ?_) rfl rfl (by kernel_rfl) (by kernel_rfl) (by kernel_rfl) (fun _ _ _ h => h) (Or.inl ⟨by kernel_rfl, ?_⟩) hS ?_
    rotate_left 1
    · (intro w' hw'; (try dsimp only at hw'); go_simp; try with_reducible rfl)
    simp only [List.setIfInBounds_toArray, List.set_cons_zero, List.set_cons_succ]
    refine takeD 2 7 (v := ?_) rfl rfl (by kernel_rfl) (by kernel_rfl) (by kernel_rfl) (fun _ _ _ h => h) (Or.inl ⟨by kernel_rfl, ?_⟩) hS ?_
    rotate_left 1
    · (intro w' hw'; (try dsimp only at hw'); go_simp; try with_reducible rfl)
    simp only [List.setIfInBounds_toArray, List.set_cons_zero, List.set_cons_succ]
    refine wpAnyH_ready (rs := [3]) (by kernel_rfl) (by simp) ?_
    refine AllReadyH.cons rfl (fun K hK => ?_) AllReadyH.nil
    go_simp
    refine (on_c _ gl f true _ (hs1.kept hS) hn).mono ?_
    rintro e w1 ⟨v1, rfl, hown, k1⟩
    refine hK.out _ _ ?_ (fun hS1 => ?_)
    · exact hS.trans0 k1
    clear hK K
    (try simp only [Act.put, List.setIfInBounds_toArray, List.set_cons_zero, List.set_cons_succ])
    refine wpAnyH_ready (rs := [4]) (by kernel_rfl) (by simp) ?_
    refine AllReadyH.cons rfl (fun K hK => ?_) AllReadyH.nil
    go_simp
    refine (same_c _ _ (onL gl f) _ (hg1.kept hS1) (IntsAt.of_owns hown) (by omega)).mono ?_
    rintro e w' ⟨rfl, rfl⟩
    refine hK.out _ _ ?_ (fun hS2 => ?_)
    · exact hS1
    clear hK K
    (try simp only [Act.put, List.setIfInBounds_toArray, List.set_cons_zero, List.set_cons_succ])
    refine takeD 5 10 (v := ?_) rfl rfl (by kernel_rfl) (by kernel_rfl) (by kernel_rfl) (fun _ _ _ h => h) (Or.inl ⟨by kernel_rfl, ?_⟩) hS1 ?_
    rotate_left 1
    · (intro w' hw'; (try dsimp only at hw'); go_simp; try with_reducible rfl)
    simp only [List.setIfInBounds_toArray, List.set_cons_zero, List.set_cons_succ]
    refine takeD 6 11 (v := ?_) rfl rfl (by kernel_rfl) (by kernel_rfl) (by kernel_rfl) (fun _ _ _ h => h) (Or.inl ⟨by kernel_rfl, ?_⟩) hS1 ?_
    rotate_left 1
    · (intro w' hw'; (try dsimp only at hw'); go_simp; try with_reducible rfl)
    simp only [List.setIfInBounds_toArray, List.set_cons_zero, List.set_cons_succ]
    refine takeD 7 12 (v := ?_) rfl rfl (by kernel_rfl) (by kernel_rfl) (by kernel_rfl) (fun _ _ _ h => h) (Or.inl ⟨by kernel_rfl, ?_⟩) hS1 ?_
    rotate_left 1
    · (intro w' hw'; (try dsimp only at hw'); go_simp; try with_reducible rfl)
    simp only [List.setIfInBounds_toArray, List.set_cons_zero, List.set_cons_succ]
    refine takeD 8 13 (v := ?_) rfl rfl (by kernel_rfl) (by kernel_rfl) (by kernel_rfl) (fun _ _ _ h => h) (Or.inl ⟨by kernel_rfl, ?_⟩) hS1 ?_
    rotate_left 1
    · (intro w' hw'; (try dsimp only at hw'); go_simp; try with_reducible rfl)
    simp only [List.setIfInBounds_toArray, List.set_cons_zero, List.set_cons_succ]
    refine takeD 9 14 (v := ?_) rfl rfl (by kernel_rfl) (by kernel_rfl) (by kernel_rfl) (fun _ _ _ h => h) (Or.inl ⟨by kernel_rfl, ?_⟩) hS1 ?_
    rotate_left 1
    · (intro w' hw'; (try dsimp only at hw'); go_simp; try with_reducible rfl)
    simp only [List.setIfInBounds_toArray, List.set_cons_zero, List.set_cons_succ]
    refine takeD 10 15 (v := ?_) rfl rfl (by kernel_rfl) (by kernel_rfl) (by kernel_rfl) (fun _ _ _ h => h) (Or.inl ⟨by kernel_rfl, ?_⟩) hS1 ?_
    rotate_left 1
    · (intro w' hw'; (try dsimp only at hw'); go_simp; try with_reducible rfl)
    simp only [List.setIfInBounds_toArray, List.set_cons_zero, List.set_cons_succ]
    refine takeD 11 16 (v := ?_) rfl rfl (by kernel_rfl) (by kernel_rfl) (by kernel_rfl) (fun _ _ _ h => h) (Or.inl ⟨by kernel_rfl, ?_⟩) hS1 ?_
    rotate_left 1
    · (intro w' hw'; (try dsimp only at hw'); go_simp; try with_reducible rfl)
    simp only [List.setIfInBounds_toArray, List.set_cons_zero, List.set_cons_succ]
    refine takeD 12 17 (v := ?_) rfl rfl (by kernel_rfl) (by kernel_rfl) (by kernel_rfl) (fun _ _ _ h => h) (Or.inl ⟨by kernel_rfl, ?_⟩) hS1 ?_
    rotate_left 1
    · (intro w' hw'; (try dsimp only at hw'); go_simp; try with_reducible rfl)
    simp only [List.setIfInBounds_toArray, List.set_cons_zero, List.set_cons_succ]
    refine takeD 13 18 (v := ?_) rfl rfl (by kernel_rfl) (by kernel_rfl) (by kernel_rfl) (fun _ _ _ h => h) (Or.inl ⟨by kernel_rfl, ?_⟩) hS1 ?_
    rotate_left 1
    · (intro w' hw'; (try dsimp only at hw'); go_simp; try with_reducible rfl)
    simp only [List.setIfInBounds_toArray, List.set_cons_zero, List.set_cons_succ]
    refine takeD 14 19 (v := ?_) rfl rfl (by kernel_rfl) (by kernel_rfl) (by kernel_rfl) (fun _ _ _ h => h) (Or.inl ⟨by kernel_rfl, ?_⟩) hS1 ?_
    rotate_left 1
    · (intro w' hw'; (try dsimp only at hw'); go_simp; try with_reducible rfl)
    simp only [List.setIfInBounds_toArray, List.set_cons_zero, List.set_cons_succ]
    refine takeD 15 20 (v := ?_) rfl rfl (by kernel_rfl) (by kernel_rfl) (by kernel_rfl) (fun _ _ _ h => h) (Or.inl ⟨by kernel_rfl, ?_⟩) hS1 ?_
    rotate_left 1
    · (intro w' hw'; (try dsimp only at hw'); go_simp; try with_reducible rfl)
    simp only [List.setIfInBounds_toArray, List.set_cons_zero, List.set_cons_succ]
    refine takeD 16 21 (v := ?_) rfl rfl (by kernel_rfl) (by kernel_rfl) (by kernel_rfl) (fun _ _ _ h => h) (Or.inl ⟨by kernel_rfl, ?_⟩) hS1 ?_
    rotate_left 1
    · (intro w' hw'; (try dsimp only at hw'); go_simp; try with_reducible rfl)
    simp only [List.setIfInBounds_toArray, List.set_cons_zero, List.set_cons_succ]
    refine takeD 17 22 (v := ?_) rfl rfl (by kernel_rfl) (by kernel_rfl) (by kernel_rfl) (fun _ _ _ h => h) (Or.inl ⟨by kernel_rfl, ?_⟩) hS1 ?_
    rotate_left 1
    · (intro w' hw'; (try dsimp only at hw'); go_simp; try with_reducible rfl)
    simp only [List.setIfInBounds_toArray, List.set_cons_zero, List.set_cons_succ]
    refine takeD 18 4 (v := ?_) rfl rfl (by kernel_rfl) (by kernel_rfl) (by kernel_rfl) (fun _ _ _ h => h) (Or.inl ⟨by kernel_rfl, ?_⟩) hS1 ?_
    rotate_left 1
    · (intro w' hw'; (try dsimp only at hw'); go_simp; try with_reducible rfl)
    simp only [List.setIfInBounds_toArray, List.set_cons_zero, List.set_cons_succ]
    refine wpAnyH_done (by kernel_rfl) ?_ _
    go_wp2
    go_ret
    exact ⟨rfl, k0.trans0 hS1⟩
  | false =>
    clear hlen
    go_enter Try.func14, Try.ntmps14
    go_wp2
    generalize ((w.alloc (.cells #[.int .i64 gl, gv] 24)).alloc (.cells #[.slice (some ⟨b, 0, none⟩) n c, .bool false] 28)) = W at *
    have L1 : ∀ w', Kept [] W w' → w'.cell? ⟨w.heap.size, 1, none⟩ = some gv := fun w' k => (cell_of_heap (k.heap (by simp) g0)).trans rfl
    have L2 : ∀ w', Kept [] W w' → w'.cell? ⟨w.heap.size + 1, 0, none⟩ = some (.slice (some ⟨b, 0, none⟩) n c) := fun w' k => (cell_of_heap (k.heap (by simp) g2)).trans rfl
    have L3 : ∀ w', Kept [] W w' → w'.cell? ⟨w.heap.size + 1, 1, none⟩ = some (.bool false) := fun w' k => (cell_of_heap (k.heap (by simp) g2)).trans rfl
    clear g0 g2
    refine wp_region_held_drew (S := fun w' => Kept [] W w') (by kernel_rfl) (Kept.refl _ _).drew (fun hS => ?_)
    refine takeD 0 5 (v := ?_) rfl rfl (by kernel_rfl) (by kernel_rfl) (by kernel_rfl) (fun _ _ _ h => h) (Or.inl ⟨by kernel_rfl, ?_⟩) hS ?_
    rotate_left 1
    · (intro w' hw'; (try dsimp only at hw'); go_simp; try with_reducible rfl)
    simp only [List.setIfInBounds_toArray, List.set_cons_zero, List.set_cons_succ]
    refine takeD 1 6 (v := ?_) rfl rfl (by kernel_rfl) (by kernel_rfl) (by kernel_rfl) (fun _ _ _ h => h) (Or.inl ⟨by kernel_rfl, ?_⟩) hS ?_
    rotate_left 1
    · (intro w' hw'; (try dsimp only at hw'); go_simp; try with_reducible rfl)
    simp only [List.setIfInBounds_toArray, List.set_cons_zero, List.set_cons_succ]
    refine takeD 2 7 (v := ?_) rfl rfl (by kernel_rfl) (by kernel_rfl) (by kernel_rfl) (fun _ _ _ h => h) (Or.inl ⟨by kernel_rfl, ?_⟩) hS ?_
    rotate_left 1
    · (intro w' hw'; (try dsimp only at hw'); go_simp; try with_reducible rfl)
    simp only [List.setIfInBounds_toArray, List.set_cons_zero, List.set_cons_succ]
    refine wpAnyH_ready (rs := [3]) (by kernel_rfl) (by simp) ?_
    refine AllReadyH.cons rfl (fun K hK => ?_) AllReadyH.nil
    go_simp
    refine (on_c _ n f false _ (hs1.kept hS) hn).mono ?_
    rintro e w1 ⟨v1, rfl, hown, k1⟩
    refine hK.out _ _ ?_ (fun hS1 => ?_)
    · exact hS.trans0 k1
    clear hK K
    (try simp only [Act.put, List.setIfInBounds_toArray, List.set_cons_zero, List.set_cons_succ])
    refine wpAnyH_ready (rs := [4]) (by kernel_rfl) (by simp) ?_
    refine AllReadyH.cons rfl (fun K hK => ?_) AllReadyH.nil
    go_simp
    refine (same_c _ _ (onL n f) _ (hg1.kept hS1) (IntsAt.of_owns hown) (by omega)).mono ?_
    rintro e w' ⟨rfl, rfl⟩
    refine hK.out _ _ ?_ (fun hS2 => ?_)
    · exact hS1
    clear hK K
    (try simp only [Act.put, List.setIfInBounds_toArray, List.set_cons_zero, List.set_cons_succ])
    refine takeD 5 10 (v := ?_) rfl rfl (by kernel_rfl) (by kernel_rfl) (by kernel_rfl) (fun _ _ _ h => h) (Or.inl ⟨by kernel_rfl, ?_⟩) hS1 ?_
    rotate_left 1
    · (intro w' hw'; (try dsimp only at hw'); go_simp; try with_reducible rfl)
    simp only [List.setIfInBounds_toArray, List.set_cons_zero, List.set_cons_succ]
    refine takeD 6 11 (v := ?_) rfl rfl (by kernel_rfl) (by kernel_rfl) (by kernel_rfl) (fun _ _ _ h => h) (Or.inl ⟨by kernel_rfl, ?_⟩) hS1 ?_
    rotate_left 1
    · (intro w' hw'; (try dsimp only at hw'); go_simp; try with_reducible rfl)
    simp only [List.setIfInBounds_toArray, List.set_cons_zero, List.set_cons_succ]
    refine takeD 7 12 (v := ?_) rfl rfl (by kernel_rfl) (by kernel_rfl) (by kernel_rfl) (fun _ _ _ h => h) (Or.inl ⟨by kernel_rfl, ?_⟩) hS1 ?_
    rotate_left 1
    · (intro w' hw'; (try dsimp only at hw'); go_simp; try with_reducible rfl)
    simp only [List.setIfInBounds_toArray, List.set_cons_zero, List.set_cons_succ]
    refine takeD 8 13 (v := ?_) rfl rfl (by kernel_rfl) (by kernel_rfl) (by kernel_rfl) (fun _ _ _ h => h) (Or.inl ⟨by kernel_rfl, ?_⟩) hS1 ?_
    rotate_left 1
    · (intro w' hw'; (try dsimp only at hw'); go_simp; try with_reducible rfl)
    simp only [List.setIfInBounds_toArray, List.set_cons_zero, List.set_cons_succ]
    refine takeD 9 14 (v := ?_) rfl rfl (by kernel_rfl) (by kernel_rfl) (by kernel_rfl) (fun _ _ _ h => h) (Or.inl ⟨by kernel_rfl, ?_⟩) hS1 ?_
    rotate_left 1
    · (intro w' hw'; (try dsimp only at hw'); go_simp; try with_reducible rfl)
    simp only [List.setIfInBounds_toArray, List.set_cons_zero, List.set_cons_succ]
    refine takeD 10 15 (v := undef) rfl rfl (by kernel_rfl) (by kernel_rfl) (by kernel_rfl) (fun _ _ _ h => h) (Or.inr ⟨by kernel_rfl, rfl⟩) hS1 ?_
    simp only [List.setIfInBounds_toArray, List.set_cons_zero, List.set_cons_succ]
    refine takeD 11 16 (v := undef) rfl rfl (by kernel_rfl) (by kernel_rfl) (by kernel_rfl) (fun _ _ _ h => h) (Or.inr ⟨by kernel_rfl, rfl⟩) hS1 ?_
    simp only [List.setIfInBounds_toArray, List.set_cons_zero, List.set_cons_succ]
    refine takeD 12 17 (v := undef) rfl rfl (by kernel_rfl) (by kernel_rfl) (by kernel_rfl) (fun _ _ _ h => h) (Or.inr ⟨by kernel_rfl, rfl⟩) hS1 ?_
    simp only [List.setIfInBounds_toArray, List.set_cons_zero, List.set_cons_succ]
    refine takeD 13 18 (v := undef) rfl rfl (by kernel_rfl) (by kernel_rfl) (by kernel_rfl) (fun _ _ _ h => h) (Or.inr ⟨by kernel_rfl, rfl⟩) hS1 ?_
    simp only [List.setIfInBounds_toArray, List.set_cons_zero, List.set_cons_succ]
    refine takeD 14 19 (v := undef) rfl rfl (by kernel_rfl) (by kernel_rfl) (by kernel_rfl) (fun _ _ _ h => h) (Or.inr ⟨by kernel_rfl, rfl⟩) hS1 ?_
    simp only [List.setIfInBounds_toArray, List.set_cons_zero, List.set_cons_succ]
    refine takeD 15 20 (v := undef) rfl rfl (by kernel_rfl) (by kernel_rfl) (by kernel_rfl) (fun _ _ _ h => h) (Or.inr ⟨by kernel_rfl, rfl⟩) hS1 ?_
    simp only [List.setIfInBounds_toArray, List.set_cons_zero, List.set_cons_succ]
    refine takeD 16 21 (v := ?_) rfl rfl (by kernel_rfl) (by kernel_rfl) (by kernel_rfl) (fun _ _ _ h => h) (Or.inl ⟨by kernel_rfl, ?_⟩) hS1 ?_
    rotate_left 1
    · (intro w' hw'; (try dsimp only at hw'); go_simp; try with_reducible rfl)
    simp only [List.setIfInBounds_toArray, List.set_cons_zero, List.set_cons_succ]
    refine takeD 17 22 (v := ?_) rfl rfl (by kernel_rfl) (by kernel_rfl) (by kernel_rfl) (fun _ _ _ h => h) (Or.inl ⟨by kernel_rfl, ?_⟩) hS1 ?_
    rotate_left 1
    · (intro w' hw'; (try dsimp only at hw'); go_simp; try with_reducible rfl)
    simp only [List.setIfInBounds_toArray, List.set_cons_zero, List.set_cons_succ]
    refine takeD 18 4 (v := ?_) rfl rfl (by kernel_rfl) (by kernel_rfl) (by kernel_rfl) (fun _ _ _ h => h) (Or.inl ⟨by kernel_rfl, ?_⟩) hS1 ?_
    rotate_left 1
    · (intro w' hw'; (try dsimp only at hw'); go_simp; try with_reducible rfl)
    simp only [List.setIfInBounds_toArray, List.set_cons_zero, List.set_cons_succ]
    refine wpAnyH_done (by kernel_rfl) ?_ _
    go_wp2
    go_ret
    exact ⟨rfl, k0.trans0 hS1⟩

end Go.Proofs.Ytiaghdnhapiioaa

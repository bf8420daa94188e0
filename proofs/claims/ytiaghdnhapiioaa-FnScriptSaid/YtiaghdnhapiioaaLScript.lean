/-
  laws.FnScript: for every input.
-/
import Derived.Test.YtiaghdnhapiioaaIScript
import Derived.Test.YtiaghdnhapiioaaDoAny
import Derived.Test.YtiaghdnhapiioaaRow
namespace Go.Proofs.Ytiaghdnhapiioaa
set_option linter.unusedSimpArgs false
set_option linter.unusedVariables false
open Go.RowKit

set_option maxHeartbeats 2000000 in
set_option maxRecDepth 100000 in
theorem fnScript_bad (L : Int) (v vs : Value) (zs : List Int) (l : List (Int × Int × Int)) (w : World) (hv : IntsZ w v zs) (hs : StepsZ w vs l) (hlen : zs.length ≤ 9223372036854775807) (hL : -9223372036854775808 ≤ L) (hL2 : L ≤ 9223372036854775807) (hb : ¬ (Good L zs ∧ l.length ≤ 30)) :
    Calls Try.prog 9 #[.agg #[.int .i64 L, v], vs] w fun e w' => e = .returned (.bool true) ∧ Kept [] w w' := by
  have k0 : Kept [] w (w.alloc (.cells #[.int .i64 L, v] 24)) := (Kept.refl _ _).alloc _
  have g0 : (w.alloc (.cells #[.int .i64 L, v] 24)).heap[w.heap.size]? = some (.cells #[.int .i64 L, v] 24 (0, 0)) := heap_alloc_new w _
  obtain ⟨sad, scap, rfl⟩ := hs.shape
  obtain ⟨sl, hsl⟩ : ∃ n, l.length = n := ⟨_, rfl⟩
  rw [hsl] at hb ⊢
  clear hs hsl
  obtain ⟨ad, m, cap, rfl⟩ : ∃ ad m cap, v = .slice ad m cap := by
    rcases hv with ⟨ad, cap, h3, h4⟩ | ⟨b, off, cap, h3, _, _⟩ <;> exact ⟨_, _, _, h3⟩
  by_cases hm : m ≤ 2147483647
  · have hd : decide (m ≤ 2147483647) = true := by simpa using hm
    by_cases hsm : sl ≤ 2147483647
    · have hd2 : ¬ (2147483647 : Int) < (sl : Int) := by omega
      by_cases hg : Good L zs
      · obtain ⟨Ln, on, rfl, q1, q2, q3, q4⟩ := hv.good hg
        have h30 : (30 : Int) < (sl : Int) := by
          have : ¬ sl ≤ 30 := fun h => hb ⟨hg, h⟩
          omega
        clear hb hg
        go_enter Try.func9, Try.ntmps9
        go_wp2_with fail
        refine (zz_c Ln ad m cap _).mono ?_
        rintro e w1 ⟨rfl, k1⟩
        have c0 : w1.cell? ⟨w.heap.size, 0, none⟩ = some (.int .i64 Ln) := (cell_of_heap (k1.heap (by simp) g0)).trans rfl
        have c1 : w1.cell? ⟨w.heap.size, 1, none⟩ = some (.slice ad m cap) := (cell_of_heap (k1.heap (by simp) g0)).trans rfl
        rw [hd]
        go_wp2_with fail
        refine (setGood_c Ln _ on _ (q4.kept (k0.trans0 k1)) q1 q2 q3).mono ?_
        rintro e w2 ⟨s, rfl, hs, k2⟩
        obtain ⟨b, c, rfl⟩ := hs.shape
        go_wp2_with fail
        go_ret
        exact ⟨rfl, (((k0.trans0 k1).trans0 k2).alloc _)⟩
      · clear hb
        go_enter Try.func9, Try.ntmps9
        go_wp2_with fail
        refine (zz_c L ad m cap _).mono ?_
        rintro e w1 ⟨rfl, k1⟩
        have c0 : w1.cell? ⟨w.heap.size, 0, none⟩ = some (.int .i64 L) := (cell_of_heap (k1.heap (by simp) g0)).trans rfl
        have c1 : w1.cell? ⟨w.heap.size, 1, none⟩ = some (.slice ad m cap) := (cell_of_heap (k1.heap (by simp) g0)).trans rfl
        rw [hd]
        go_wp2_with fail
        refine (setBad_c L _ zs _ (hv.kept (k0.trans0 k1)) hg hlen hL hL2).mono ?_
        rintro e w2 ⟨rfl, k2⟩
        go_wp2_with fail
        go_ret
        exact ⟨rfl, (((k0.trans0 k1).trans0 k2).alloc _)⟩
    · have hd2 : (2147483647 : Int) < (sl : Int) := by omega
      clear hb
      go_enter Try.func9, Try.ntmps9
      go_wp2_with fail
      refine (zz_c L ad m cap _).mono ?_
      rintro e w1 ⟨rfl, k1⟩
      have c0 : w1.cell? ⟨w.heap.size, 0, none⟩ = some (.int .i64 L) := (cell_of_heap (k1.heap (by simp) g0)).trans rfl
      have c1 : w1.cell? ⟨w.heap.size, 1, none⟩ = some (.slice ad m cap) := (cell_of_heap (k1.heap (by simp) g0)).trans rfl
      rw [hd]
      go_wp2_with fail
      go_ret
      exact ⟨rfl, k0.trans0 k1⟩
  · have hd : decide (m ≤ 2147483647) = false := by simpa using hm
    clear hb
    go_enter Try.func9, Try.ntmps9
    go_wp2_with fail
    refine (zz_c L ad m cap _).mono ?_
    rintro e w1 ⟨rfl, k1⟩
    have c0 : w1.cell? ⟨w.heap.size, 0, none⟩ = some (.int .i64 L) := (cell_of_heap (k1.heap (by simp) g0)).trans rfl
    have c1 : w1.cell? ⟨w.heap.size, 1, none⟩ = some (.slice ad m cap) := (cell_of_heap (k1.heap (by simp) g0)).trans rfl
    rw [hd]
    go_wp2_with fail
    go_ret
    exact ⟨rfl, k0.trans0 k1⟩

set_option maxHeartbeats 4000000 in
set_option maxRecDepth 100000 in
theorem fnScript_good (L : Nat) (v vs : Value) (on : List Nat) (l : List (Int × Int × Int)) (w : World) (hv : IntsAt w v on) (hs : StepsZ w vs l) (hL : L ≤ 2000) (hlen : on.length ≤ 400) (hon : ∀ x ∈ on, x < 2500) (hl : l.length ≤ 30) :
    Calls Try.prog 9 #[.agg #[.int .i64 L, v], vs] w fun e w' => e = .returned (.bool true) ∧ Kept [] w w' := by
  have k0 : Kept [] w (w.alloc (.cells #[.int .i64 L, v] 24)) := (Kept.refl _ _).alloc _
  have g0 : (w.alloc (.cells #[.int .i64 L, v] 24)).heap[w.heap.size]? = some (.cells #[.int .i64 L, v] 24 (0, 0)) := heap_alloc_new w _
  obtain ⟨ad, cap, rfl⟩ := hv.shape
  have hd : decide (on.length ≤ 2147483647) = true := by simp; omega
  have hln := lenOf_le L on 2500 (by omega) hon
  obtain ⟨sad, scap, rfl⟩ := hs.shape
  have hst : ∀ j, j < l.length → ∃ sb off, sad = some ⟨sb, off, none⟩ ∧ sb < w.heap.size ∧ w.cell? ⟨sb, off + j * 3, none⟩ = some (.int .i64 (l.getD j (0, 0, 0)).1) ∧ w.cell? ⟨sb, off + j * 3 + 1, none⟩ = some (.int .i64 (l.getD j (0, 0, 0)).2.1) ∧ w.cell? ⟨sb, off + j * 3 + 2, none⟩ = some (.int .i64 (l.getD j (0, 0, 0)).2.2) := fun j hj => by
    rcases hs with ⟨ad, cap, e, rfl⟩ | ⟨sb, off, cap, e, h1, h2⟩
    · simp at hj
    · cases e
      exact ⟨sb, off, rfl, h1, h2 j hj⟩
  obtain ⟨len, hlenE⟩ : ∃ len, l.length = len := ⟨_, rfl⟩
  rw [hlenE] at hs ⊢
  have hlen30 : len ≤ 30 := by omega
  have hd2 : ¬ (2147483647 : Int) < (len : Int) := by omega
  have h30 : ¬ (30 : Int) < (len : Int) := by omega
  have HLE := Lib.hid hlenE; have HST := Lib.hid hst
  clear hlenE hst
  go_enter Try.func9, Try.ntmps9
  go_wp2_with fail
  refine (zz_c L ad on.length cap _).mono ?_
  rintro e w1 ⟨rfl, k1⟩
  have c0 : w1.cell? ⟨w.heap.size, 0, none⟩ = some (.int .i64 L) := (cell_of_heap (k1.heap (by simp) g0)).trans rfl
  have c1 : w1.cell? ⟨w.heap.size, 1, none⟩ = some (.slice ad on.length cap) := (cell_of_heap (k1.heap (by simp) g0)).trans rfl
  rw [hd]
  go_wp2_with fail
  refine (setGood_c L _ on _ (hv.kept (k0.trans0 k1)) hL hlen hon).mono ?_
  rintro e w2 ⟨s, rfl, hsp, k2⟩
  obtain ⟨b0, c0', rfl⟩ := hsp.shape
  have hA := k2.heap (by simp) (k1.heap (by simp) g0)
  have hlt2 := lt_of_heap hA
  clear c0 c1
  obtain ⟨W, hW⟩ : ∃ W, (w2.alloc (.cells #[.slice (some ⟨b0, 0, none⟩) (lenOf L on) c0', .bool true] 28)) = W := ⟨_, rfl⟩
  have kW : Kept [] w W := by rw [← hW]; exact (((k0.trans0 k1).trans0 k2).alloc _)
  have gX : W.heap[w2.heap.size]? = some (.cells #[.slice (some ⟨b0, 0, none⟩) (lenOf L on) c0', .bool true] 28 (0, 0)) := by rw [← hW]; exact heap_alloc_new w2 _
  have gA : W.heap[w.heap.size]? = some (.cells #[.int .i64 L, .slice ad on.length cap] 24 (0, 0)) := by rw [← hW]; exact alloc_heap_old hA _
  have hsW : SpecSet W (.agg #[.slice (some ⟨b0, 0, none⟩) (lenOf L on) c0', .bool true]) (lenOf L on) (memOf on) true := by rw [← hW]; exact hsp.kept ((Kept.refl _ _).alloc _)
  have hXw : w.heap.size ≤ w2.heap.size := by omega
  obtain ⟨X, hX⟩ : ∃ X, w2.heap.size = X := ⟨_, rfl⟩
  have HW := Lib.hid hW
  clear hW hsp hA k0 g0 k1 k2
  go_wp2_with fail
  (try rw [HW.out])
  rw [hX] at gX hXw
  (try rw [hX])
  have hXA : X ≠ w.heap.size := by intro e; rw [e] at gX; rw [gX] at gA; injection gA with gA; injection gA with _ gA; exact absurd gA (by decide)
  clear HW hlt2 hX
  clear w2
  go_loopw [31] (fun v wr => ∃ (y : Nat) (ri : Ref) (b c : Nat), y ≤ len ∧ v = .int .i64 y ∧ Hid (runS ⟨lenOf L on, memOf on, true⟩ (l.take y) = some ri) ∧ SpecSet wr (.agg #[.slice (some ⟨b, 0, none⟩) ri.n c, .bool ri.t]) ri.n ri.f ri.t ∧ wr.heap[X]? = some (.cells #[.slice (some ⟨b, 0, none⟩) ri.n c, .bool ri.t] 28 (0, 0)) ∧ Kept [X] W wr) (fun v _ => len - (intOf v).toNat)
  case atStart => exact ⟨0, ⟨lenOf L on, memOf on, true⟩, b0, c0', Nat.zero_le _, rfl, by show _ = _; rw [List.take_zero]; rfl, hsW, gX, Kept.refl _ _⟩
  case round =>
    obtain ⟨y, ri, b, c, hy, rfl, hpre, hsp, hXr, q1⟩ := hrel
    obtain ⟨n, f, t⟩ := ri
    have hsp : SpecSet wr (.agg #[.slice (some ⟨b, 0, none⟩) n c, .bool t]) n f t := hsp
    have hXr : wr.heap[X]? = some (.cells #[.slice (some ⟨b, 0, none⟩) n c, .bool t] 28 (0, 0)) := hXr
    have qw : Kept [] w wr := kW.trans q1 (fun j hj => by simp at hj; subst hj; right; exact hXw)
    clear hsW gX
    by_cases hyl : y < len
    · obtain ⟨sb, off, rfl, hsb, s1, s2, s3⟩ := HST.out y (by rw [HLE.out]; exact hyl)
      obtain ⟨⟨op, A, B⟩, hx⟩ : ∃ x, l.getD y (0, 0, 0) = x := ⟨_, rfl⟩
      rw [hx] at s1 s2 s3
      have hnx : runS ⟨lenOf L on, memOf on, true⟩ (l.take (y + 1)) = doS op A B ⟨n, f, t⟩ := by
        rw [take_snoc l (0, 0, 0) y (by rw [HLE.out]; exact hyl), runS_snoc, hpre.out, hx]
      have t1 := qw.cell (by simp) s1; have t2 := qw.cell (by simp) s2; have t3 := qw.cell (by simp) s3
      have x0 : wr.cell? ⟨X, 0, none⟩ = some (.slice (some ⟨b, 0, none⟩) n c) := (cell_of_heap hXr).trans rfl
      have x1 : wr.cell? ⟨X, 1, none⟩ = some (.bool t) := (cell_of_heap hXr).trans rfl
      have hXlt := lt_of_heap hXr
      have hsblt : sb < wr.heap.size := Nat.lt_of_lt_of_le hsb qw.size
      have hyl' : (y : Int) < (len : Int) := by omega
      have hy0 : (0 : Int) ≤ (y : Int) := by omega
      have HNX := Lib.hid hnx
      clear s1 s2 s3 hx hnx
      go_wp2_with fail
      refine (do_any _ n f t _ (hsp.kept ((Kept.refl _ _).alloc _)) op A B).mono ?_
      intro e w4 hpost
      cases hdo : doS op A B ⟨n, f, t⟩ with
      | none =>
        rw [hdo] at hpost
        obtain ⟨rfl, k4⟩ := hpost
        clear HNX hdo
        go_wp2_with fail
        go_ret
        exact ⟨rfl, ((qw.alloc _).trans0 k4).alloc _⟩
      | some r2 =>
        rw [hdo] at hpost
        obtain ⟨s', rfl, hs4, k4⟩ := hpost
        obtain ⟨b', c', rfl⟩ := hs4.shape
        have hnext : Hid (runS ⟨lenOf L on, memOf on, true⟩ (l.take (y + 1)) = some r2) := HNX.out.trans hdo
        clear HNX hdo
        have hX4 := k4.heap (by simp) (alloc_heap_old hXr (.cells #[.int .i64 op, .int .i64 A, .int .i64 B] 48))
        have q4 : Kept [X] W w4 := (q1.alloc _).trans0 k4
        obtain ⟨b'', c'', e5, r4⟩ := hs4
        cases e5
        have hbX := r4.ne hX4 (by decide)
        have r6 := ((r4.other (o := 0) hbX (.slice (some ⟨b', 0, none⟩) r2.n c')).other (o := 1) hbX (.bool r2.t)).alloc (.cells #[.slice (some ⟨b', 0, none⟩) r2.n c', .bool r2.t] 28)
        have hX6 := alloc_heap_old (setCell_heap_same (o := 1) (setCell_heap_same (o := 0) hX4 (.slice (some ⟨b', 0, none⟩) r2.n c')) (.bool r2.t)) (.cells #[.slice (some ⟨b', 0, none⟩) r2.n c', .bool r2.t] 28)
        have q6 := ((q4.setCell (p := ⟨X, 0, none⟩) (by left; simp) (.slice (some ⟨b', 0, none⟩) r2.n c')).setCell (p := ⟨X, 1, none⟩) (by left; simp) (.bool r2.t)).alloc (.cells #[.slice (some ⟨b', 0, none⟩) r2.n c', .bool r2.t] 28)
        obtain ⟨z0, z1, z2, z3, z4, z5⟩ := box2 hX4 (.slice (some ⟨b', 0, none⟩) r2.n c') (.bool r2.t)
        have hX4lt := lt_of_heap hX4
        clear hX4 q4 r4
        go_wp2_with fail
        go_roundw
        case rel => exact ⟨y + 1, r2, b', c', by omega, by go_num, hnext, ⟨b', c', rfl, r6⟩, hX6, q6⟩
        case measure => simp [intOf] <;> omega
    · obtain rfl : y = len := by omega
      have hfin := hpre.out
      rw [List.take_of_length_le (by rw [HLE.out]; exact Nat.le_refl _)] at hfin
      have gA1 := q1.heap (by simp; exact Ne.symm hXA) gA
      have hv1 := hv.kept qw
      have hs1 := hs.kept qw
      have HFIN := Lib.hid hfin
      clear hfin hpre gA HST HLE q1 hXw kW
      go_wp2_with fail
      have A0 : ∀ w', Kept [] wr w' → w'.cell? ⟨w.heap.size, 0, none⟩ = some (.int .i64 L) := fun w' k => (cell_of_heap (k.heap (by simp) gA1)).trans rfl
      have A1 : ∀ w', Kept [] wr w' → w'.cell? ⟨w.heap.size, 1, none⟩ = some (.slice ad on.length cap) := fun w' k => (cell_of_heap (k.heap (by simp) gA1)).trans rfl
      have B0 : ∀ w', Kept [] wr w' → w'.cell? ⟨X, 0, none⟩ = some (.slice (some ⟨b, 0, none⟩) n c) := fun w' k => (cell_of_heap (k.heap (by simp) hXr)).trans rfl
      have B1 : ∀ w', Kept [] wr w' → w'.cell? ⟨X, 1, none⟩ = some (.bool t) := fun w' k => (cell_of_heap (k.heap (by simp) hXr)).trans rfl
      clear gA1 hXr
      refine wp_region_held_drew (S := fun w' => Kept [] wr w') (by kernel_rfl) (Kept.refl _ _).drew (fun hS => ?_)
      refine takeD 0 45 (v := ?_) rfl rfl (by kernel_rfl) (by kernel_rfl) (by kernel_rfl) (fun _ _ _ h => h) (Or.inl ⟨by kernel_rfl, ?_⟩) hS ?_
      rotate_left 1
      · (intro w' hw'; (try dsimp only at hw'); go_simp; try with_reducible rfl)
      simp only [List.setIfInBounds_toArray, List.set_cons_zero, List.set_cons_succ]
      refine takeD 1 46 (v := ?_) rfl rfl (by kernel_rfl) (by kernel_rfl) (by kernel_rfl) (fun _ _ _ h => h) (Or.inl ⟨by kernel_rfl, ?_⟩) hS ?_
      rotate_left 1
      · (intro w' hw'; (try dsimp only at hw'); go_simp; try with_reducible rfl)
      simp only [List.setIfInBounds_toArray, List.set_cons_zero, List.set_cons_succ]
      refine takeD 3 48 (v := ?_) rfl rfl (by kernel_rfl) (by kernel_rfl) (by kernel_rfl) (fun _ _ _ h => h) (Or.inl ⟨by kernel_rfl, ?_⟩) hS ?_
      rotate_left 1
      · (intro w' hw'; (try dsimp only at hw'); go_simp; try with_reducible rfl)
      simp only [List.setIfInBounds_toArray, List.set_cons_zero, List.set_cons_succ]
      refine wpAnyH_ready (rs := [2]) (by kernel_rfl) (by simp) ?_
      refine AllReadyH.cons rfl (fun K hK => ?_) AllReadyH.nil
      go_simp
      refine (implScript_c L _ _ on l ⟨n, f, t⟩ _ (hv1.kept hS) (hs1.kept hS) hL hlen hon hl HFIN.out).mono ?_
      rintro e w6 ⟨M6, v6, rfl, hM6, hv6, hn6, k6⟩
      have hM6' := Lib.hid hM6; clear hM6
      refine hK.out _ _ ?_ (fun hS1 => ?_)
      · exact hS.trans0 k6
      clear hK K
      (try simp only [Act.put, List.setIfInBounds_toArray, List.set_cons_zero, List.set_cons_succ])
      refine wpAnyH_ready (rs := [4]) (by kernel_rfl) (by simp) ?_
      refine AllReadyH.cons rfl (fun K hK => ?_) AllReadyH.nil
      go_simp
      refine (bits_c M6 v6 _ n f t _ hv6 (hsp.kept hS1) (by have : n ≤ 8600 := hn6; omega) hM6'.out).mono ?_
      rintro e w7 ⟨rfl, k7⟩
      refine hK.out _ _ ?_ (fun hS2 => ?_)
      · exact hS1.trans0 k7
      clear hK K
      (try simp only [Act.put, List.setIfInBounds_toArray, List.set_cons_zero, List.set_cons_succ])
      refine takeD 5 4 (v := ?_) rfl rfl (by kernel_rfl) (by kernel_rfl) (by kernel_rfl) (fun _ _ _ h => h) (Or.inl ⟨by kernel_rfl, ?_⟩) hS2 ?_
      rotate_left 1
      · (intro w' hw'; (try dsimp only at hw'); go_simp; try with_reducible rfl)
      simp only [List.setIfInBounds_toArray, List.set_cons_zero, List.set_cons_succ]
      refine wpAnyH_done (by kernel_rfl) ?_ _
      go_wp2
      go_ret
      exact ⟨rfl, qw.trans0 hS2⟩

theorem fnScript_c (L : Int) (v vs : Value) (zs : List Int) (l : List (Int × Int × Int)) (w : World) (hv : IntsZ w v zs) (hs : StepsZ w vs l) (hlen : zs.length ≤ 9223372036854775807) (hL : -9223372036854775808 ≤ L) (hL2 : L ≤ 9223372036854775807) :
    Calls Try.prog 9 #[.agg #[.int .i64 L, v], vs] w fun e w' => e = .returned (.bool true) ∧ Kept [] w w' := by
  by_cases hg : Good L zs ∧ l.length ≤ 30
  · obtain ⟨Ln, on, rfl, q1, q2, q3, q4⟩ := hv.good hg.1
    exact fnScript_good Ln v vs on l w q4 hs q1 q2 q3 hg.2
  · exact fnScript_bad L v vs zs l w hv hs hlen hL hL2 hg

open Go.ChangeShapes Go.WideShapes Go.ChangeAt Go.Joins

set_option maxRecDepth 100000 in
theorem fnScript_lifted (os : Os) (started : os.Started) (H : Type) (enc : TypeId × Value → H) :
    ReturnsInHanded {} Try.checked os 9 .any (Rows.fnScriptSpec.pre6 enc Try.prog Try.f9 Rows.fnScriptRow.domain false) (Rows.fnScriptSpec.post enc Try.prog Try.f9 false true false false) := by
  refine returnsInHanded_of_change (C := Try.checked) Try.own started (by kernel_rfl) Try.func9
    (ChangeSpec.witness6 (enc := enc) (C := Try.checked) false ⟨#[], #[.agg #[.int .i64 0, .slice none 0 0], .slice none 0 0], []⟩ 8 (by kernel_rfl) (by kernel_rfl) (by kernel_rfl) (by kernel_rfl)) ?_
  intro W base args ds gs before hval0 hW _ _
  have hval : ∀ (j : Nat) t v, Try.f9.params[j]? = some t → args[j]? = some v → Value.okWide Try.prog W .any base t v := hval0
  have hW' := hW
  obtain ⟨p, q, hA0, hV, rfl, _, _⟩ := hW
  have hA : DataW.TrodAll enc Try.prog W 0 (fun _ => true) true Try.f9.params.toList args.toList ds p := hA0
  rw [Try.params9] at hA hval
  obtain ⟨v0, v1, d0, d1, p0, p1, rfl, rfl, rfl, h0, h1⟩ := trodAll_two hA
  obtain ⟨rfl, rfl⟩ := trodVars_none hV
  obtain ⟨L0, s0, zs0, rfl, hz0, hlen0, hL0, hR0⟩ := bits_read (hval 0 24 v0 rfl rfl) h0
  obtain ⟨l0, hs0, _⟩ := stepsArg_read (hval 1 47 v1 rfl rfl) h1
  clear hA0 hval0
  simp only [List.append_nil] at hW'
  have hlt0 : ∀ x ∈ p0, x.block < W.heap.size := fun x hx => by simpa using hW'.lt x (by simp [hx])
  have hlt1 : ∀ x ∈ p1, x.block < W.heap.size := fun x hx => by simpa using hW'.lt x (by simp [hx])
  refine (fnScript_c L0 s0 v1 zs0 l0 W hz0 hs0 hlen0 hL0 hR0).mono fun e W' ⟨he, hk⟩ => ?_
  subst he
  have hb := hk.below
  refine ⟨_, rfl, _, _, _, [], p0 ++ p1, [], hW', ?_, ?_, rfl, hb.frame _, fun h => by cases h⟩
  · exact trodAll_mk1 (shut_bool Try.underlying4 true)
  · exact trodAll_mk2 (Below.trod Try.laidOut (by kernel_rfl) (of_decide_eq_true (by kernel_rfl)) h0 hb hlt0) (Below.trod Try.laidOut (by kernel_rfl) (of_decide_eq_true (by kernel_rfl)) h1 hb hlt1)

theorem fnScript_holds : Rows.FnScriptSaid :=
  OpenClaim.holds_of_wide 9 Try.f9 rfl rfl rfl rfl rfl rfl rfl ⟨rfl, rfl, rfl, rfl, rfl⟩ rfl rfl rfl rfl rfl (by kernel_rfl) Try.func9 (by kernel_rfl)
    (of_decide_eq_true (by kernel_rfl)) (by unfold Func.isWrapper; first | (rw [if_pos (by decide +kernel)]; kernel_rfl) | (rw [if_neg (by decide +kernel)]; exact ⟨rfl, rfl⟩))
    (fun os started H enc _ => fnScript_lifted os started H enc)

end Go.Proofs.Ytiaghdnhapiioaa

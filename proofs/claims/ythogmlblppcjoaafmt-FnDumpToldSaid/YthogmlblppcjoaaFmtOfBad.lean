/-
  The contracts of the reference's Of where what is told is too great, and of laws' set and zzFits1.
-/
import Derived.Test.YthogmlblppcjoaaFmtOf
namespace Go.Proofs.YthogmlblppcjoaaFmt
set_option linter.unusedSimpArgs false
set_option linter.unusedVariables false
open Go.RowKit

/-- A slice value reads as these integers. -/
def IntsZ (w : World) (v : Value) (l : List Int) : Prop :=
  (∃ ad cap, v = .slice ad 0 cap ∧ l = []) ∨ (∃ b off cap, v = .slice (some ⟨b, off, none⟩) l.length cap ∧ b < w.heap.size ∧ ∀ j, j < l.length → w.cell? ⟨b, off + j, none⟩ = some (.int .i64 (l.getD j 0)))
theorem IntsZ.kept {w w' : World} {v : Value} {l : List Int} (h : IntsZ w v l) (k : Kept [] w w') : IntsZ w' v l := by
  rcases h with h | ⟨b, off, cap, rfl, hb, hc⟩
  · exact .inl h
  · exact .inr ⟨b, off, cap, rfl, Nat.lt_of_lt_of_le hb k.size, fun j hj => k.cell (by simp) (hc j hj)⟩
/-- What the statements take: a length from 0 to 2000, at most 400 places, each from 0 to 2499. -/
def Good (L : Int) (zs : List Int) : Prop := 0 ≤ L ∧ L ≤ 2000 ∧ zs.length ≤ 400 ∧ ∀ z ∈ zs, 0 ≤ z ∧ z < 2500
theorem IntsZ.good {w : World} {v : Value} {L : Int} {zs : List Int} (h : IntsZ w v zs) (hg : Good L zs) :
    ∃ (Ln : Nat) (on : List Nat), L = (Ln : Int) ∧ Ln ≤ 2000 ∧ on.length ≤ 400 ∧ (∀ x ∈ on, x < 2500) ∧ IntsAt w v on := by
  obtain ⟨h0, h1, h2, h3⟩ := hg
  refine ⟨L.toNat, zs.map Int.toNat, by omega, by omega, by simpa using h2, fun x hx => ?_, ?_⟩
  · obtain ⟨z, hz, rfl⟩ := List.mem_map.1 hx
    have := h3 z hz; omega
  · rcases h with ⟨ad, cap, rfl, rfl⟩ | ⟨b, off, cap, rfl, hb, hc⟩
    · exact .inl ⟨_, _, rfl, rfl⟩
    · refine .inr ⟨b, off, cap, by simp, fun j hj => ?_⟩
      have hj' : j < zs.length := by simpa using hj
      rw [hc j hj', getD_in _ _ _ hj, getD_in _ _ _ hj', List.getElem_map, Int.toNat_of_nonneg (h3 _ (List.getElem_mem hj')).1]

/-- The first element that is out of bounds. -/
theorem first_bad (zs : List Int) (h : ¬ ∀ z ∈ zs, 0 ≤ z ∧ z < 2500) : ∃ p, p < zs.length ∧ (∀ j, j < p → 0 ≤ zs.getD j 0 ∧ zs.getD j 0 < 2500) ∧ ¬ (0 ≤ zs.getD p 0 ∧ zs.getD p 0 < 2500) := by
  induction zs with
  | nil => exact absurd (fun z hz => by cases hz) h
  | cons a r ih =>
    by_cases ha : 0 ≤ a ∧ a < 2500
    · obtain ⟨p, h1, h2, h3⟩ := ih (fun hr => h (fun z hz => by rcases List.mem_cons.1 hz with rfl | hz; exact ha; exact hr z hz))
      refine ⟨p + 1, by simp; omega, fun j hj => ?_, by simpa using h3⟩
      cases j with
      | zero => simpa using ha
      | succ j => simpa using h2 j (by omega)
    · exact ⟨0, by simp, fun j hj => by omega, by simpa using ha⟩

set_option maxHeartbeats 2000000 in
theorem ofBad_c (L : Int) (v : Value) (zs : List Int) (w : World) (hv : IntsZ w v zs) (hb : ¬ Good L zs) (hlen : zs.length ≤ 9223372036854775807) (hL : -9223372036854775808 ≤ L) (hL2 : L ≤ 9223372036854775807) :
    Calls Tryf.prog 9 #[.agg #[.int .i64 L, v]] w fun e w' => e = .returned (.tuple #[.agg #[.slice none 0 0, .bool false], .bool false]) ∧ Kept [] w w' := by
  by_cases h0 : 0 ≤ L
  · by_cases h1 : L ≤ 2000
    · by_cases h2 : zs.length ≤ 400
      · obtain ⟨p, hp, hbef, hbad⟩ := first_bad zs (fun h => hb ⟨h0, h1, h2, h⟩)
        rcases hv with ⟨ad, cap, rfl, rfl⟩ | ⟨b, off, cap, rfl, hblt, hc⟩
        · simp at hp
        · have HC := Lib.hid hc; have HB := Lib.hid hbef; have HD := Lib.hid hbad
          clear hc hbef hbad hb
          obtain ⟨m, hm⟩ : ∃ m, zs.length = m := ⟨_, rfl⟩
          rw [hm] at h2 hp HC ⊢
          clear hm hlen
          go_enter Tryf.func9, Tryf.ntmps9
          go_wp2
          go_loop [30, 4] (fun i nn => ∃ (k : Nat) (y : Int), k ≤ p ∧ i = .int .i64 k ∧ nn = .int .i64 y ∧ 0 ≤ y ∧ y ≤ 2500) (fun i _ => m - (intOf i).toNat)
          case atStart => exact ⟨0, L, Nat.zero_le _, rfl, rfl, h0, by omega⟩
          case round =>
            obtain ⟨k, y, hk, rfl, rfl, hy0, hy1⟩ := hrel
            have hc0 := HC.out k (by omega)
            by_cases hkp : k < p
            · obtain ⟨hx0, hx1⟩ := HB.out k hkp
              generalize zs.getD k 0 = x at *
              by_cases hyx : y < x + 1
              · go_wp2
                go_round
                case rel => exact ⟨k + 1, x + 1, by omega, by go_num, by simp, by omega, by omega⟩
                case measure => simp [intOf]; omega
              · go_wp2
                go_round
                case rel => exact ⟨k + 1, y, by omega, by go_num, by simp, by omega, by omega⟩
                case measure => simp [intOf]; omega
            · have hkp' : k = p := by omega
              subst hkp'
              have hx := HD.out
              clear HB HD HC
              generalize zs.getD k 0 = x at *
              by_cases hx0 : x < 0
              · go_wp2
                exact bodyPost_ret (v := .tuple #[.agg #[.slice none 0 0, .bool false], .bool false]) (by simp [results, Tryf.results9, go_sem]) rfl ⟨rfl, ((Kept.refl _ _).alloc _).alloc _⟩
              · have hx1 : ¬ x < 2500 := by omega
                have hx2 : 2500 ≤ x := by omega
                clear hx
                go_wp2
                exact bodyPost_ret (v := .tuple #[.agg #[.slice none 0 0, .bool false], .bool false]) (by simp [results, Tryf.results9, go_sem]) rfl ⟨rfl, ((Kept.refl _ _).alloc _).alloc _⟩
      · obtain ⟨ad, m, cap, rfl, hm⟩ : ∃ ad m cap, v = .slice ad m cap ∧ 400 < m := by
          rcases hv with ⟨ad, cap, h3, h4⟩ | ⟨b, off, cap, h3, _, _⟩
          · subst h4; simp at h2
          · exact ⟨_, _, _, h3, by omega⟩
        clear hv hb h2 hlen
        have hm' : ¬ m ≤ 400 := by omega
        go_enter Tryf.func9, Tryf.ntmps9
        go_wp2
        exact bodyPost_ret (v := .tuple #[.agg #[.slice none 0 0, .bool false], .bool false]) (by simp [results, Tryf.results9, go_sem]) rfl ⟨rfl, ((Kept.refl _ _).alloc _).alloc _⟩
    · obtain ⟨ad, m, cap, rfl⟩ : ∃ ad m cap, v = .slice ad m cap := by
        rcases hv with ⟨ad, cap, h3, h4⟩ | ⟨b, off, cap, h3, _, _⟩ <;> exact ⟨_, _, _, h3⟩
      clear hv hb hlen
      go_enter Tryf.func9, Tryf.ntmps9
      go_wp2
      exact bodyPost_ret (v := .tuple #[.agg #[.slice none 0 0, .bool false], .bool false]) (by simp [results, Tryf.results9, go_sem]) rfl ⟨rfl, ((Kept.refl _ _).alloc _).alloc _⟩
  · obtain ⟨ad, m, cap, rfl⟩ : ∃ ad m cap, v = .slice ad m cap := by
      rcases hv with ⟨ad, cap, h3, h4⟩ | ⟨b, off, cap, h3, _, _⟩ <;> exact ⟨_, _, _, h3⟩
    clear hv hb hlen
    go_enter Tryf.func9, Tryf.ntmps9
    go_wp2
    exact bodyPost_ret (v := .tuple #[.agg #[.slice none 0 0, .bool false], .bool false]) (by simp [results, Tryf.results9, go_sem]) rfl ⟨rfl, ((Kept.refl _ _).alloc _).alloc _⟩

/-- A block of two cells that is written whole: a struct result. -/
theorem box2 {wr : World} {R : Nat} {x y : Value} {T : TypeId} (h : wr.heap[R]? = some (.cells #[x, y] T (0, 0))) (u0 u1 : Value) :
    wr.cell? ⟨R, 0, none⟩ = some x ∧ wr.cell? ⟨R, 1, none⟩ = some y ∧ wr.frozen? ⟨R, 0, none⟩ = false ∧ wr.frozen? ⟨R, 1, none⟩ = false ∧
    ((wr.setCell ⟨R, 0, none⟩ u0).setCell ⟨R, 1, none⟩ u1).cell? ⟨R, 0, none⟩ = some u0 ∧ ((wr.setCell ⟨R, 0, none⟩ u0).setCell ⟨R, 1, none⟩ u1).cell? ⟨R, 1, none⟩ = some u1 := by
  have c0 : wr.cell? ⟨R, 0, none⟩ = some x := (cell_of_heap h).trans rfl
  have c1 : wr.cell? ⟨R, 1, none⟩ = some y := (cell_of_heap h).trans rfl
  exact ⟨c0, c1, free_of_heap h, free_of_heap h, (World.cell?_setCell_other _ _ _ _ (by simp)).trans (World.cell?_setCell_same _ _ _ c0), World.cell?_setCell_same _ _ _ ((World.cell?_setCell_other _ _ _ _ (by simp)).trans c1)⟩
theorem SpecSet.other {w : World} {s : Value} {n : Nat} {f : Nat → Bool} {t : Bool} (h : SpecSet w s n f t) {R o : Nat} {x y : Value} {T : TypeId} (hR : w.heap[R]? = some (.cells #[x, y] T (0, 0))) (hT : T ≠ 4) (u : Value) : SpecSet (w.setCell ⟨R, o, none⟩ u) s n f t := by
  obtain ⟨b, c, h1, h2⟩ := h
  refine ⟨b, c, h1, h2.other (fun e => ?_) u⟩
  obtain ⟨cur, h3, _⟩ := h2
  subst e
  rw [h3] at hR
  cases hR
  exact hT rfl

set_option maxHeartbeats 400000 in
theorem setGood_c (L : Nat) (v : Value) (on : List Nat) (w : World) (hv : IntsAt w v on) (hL : L ≤ 2000) (hlen : on.length ≤ 400) (hon : ∀ x ∈ on, x < 2500) :
    Calls Tryf.prog 5 #[.agg #[.int .i64 L, v]] w fun e w' => ∃ s, e = .returned (.tuple #[s, .bool true]) ∧ SpecSet w' s (lenOf L on) (memOf on) true ∧ Kept [] w w' := by
  have k0 : Kept [] w ((w.alloc (.cells #[.int .i64 L, v] 24)).alloc (.cells #[.slice none 0 0, .bool false] 28)) := ((Kept.refl _ _).alloc _).alloc _
  have g0 : ((w.alloc (.cells #[.int .i64 L, v] 24)).alloc (.cells #[.slice none 0 0, .bool false] 28)).heap[w.heap.size + 1]? = some (.cells #[.slice none 0 0, .bool false] 28 (0, 0)) := by
    have := heap_alloc_new (w.alloc (.cells #[.int .i64 L, v] 24)) (.cells #[.slice none 0 0, .bool false] 28)
    simpa using this
  go_enter Tryf.func5, Tryf.ntmps5
  go_wp2_with fail
  refine (ofGood_c L v on _ (hv.kept k0) hL hlen hon).mono ?_
  rintro e w1 ⟨s, rfl, hs, k1⟩
  have g1 := k1.heap (by simp) g0
  have hs0 := hs
  obtain ⟨b, c, rfl, _⟩ := hs
  obtain ⟨c0, c1, z0, z1, e0, e1⟩ := box2 g1 (.slice (some ⟨b, 0, none⟩) (lenOf L on) c) (.bool true)
  go_wp2
  refine bodyPost_ret (v := .tuple #[.agg #[.slice (some ⟨b, 0, none⟩) (lenOf L on) c, .bool true], .bool true]) (by simp [results, Tryf.results5, go_sem, e0, e1]) rfl ⟨_, rfl, ?_, ?_⟩
  · exact (hs0.other g1 (by decide) _).other (setCell_heap_same g1 _) (by decide) _
  · exact ((k0.trans0 k1).setCell (by right; simp) _).setCell (by right; simp) _

set_option maxHeartbeats 400000 in
theorem setBad_c (L : Int) (v : Value) (zs : List Int) (w : World) (hv : IntsZ w v zs) (hb : ¬ Good L zs) (hlen : zs.length ≤ 9223372036854775807) (hL : -9223372036854775808 ≤ L) (hL2 : L ≤ 9223372036854775807) :
    Calls Tryf.prog 5 #[.agg #[.int .i64 L, v]] w fun e w' => e = .returned (.tuple #[.agg #[.slice none 0 0, .bool false], .bool false]) ∧ Kept [] w w' := by
  have k0 : Kept [] w ((w.alloc (.cells #[.int .i64 L, v] 24)).alloc (.cells #[.slice none 0 0, .bool false] 28)) := ((Kept.refl _ _).alloc _).alloc _
  have g0 : ((w.alloc (.cells #[.int .i64 L, v] 24)).alloc (.cells #[.slice none 0 0, .bool false] 28)).heap[w.heap.size + 1]? = some (.cells #[.slice none 0 0, .bool false] 28 (0, 0)) := by
    have := heap_alloc_new (w.alloc (.cells #[.int .i64 L, v] 24)) (.cells #[.slice none 0 0, .bool false] 28)
    simpa using this
  go_enter Tryf.func5, Tryf.ntmps5
  go_wp2_with fail
  refine (ofBad_c L v zs _ (hv.kept k0) hb hlen hL hL2).mono ?_
  rintro e w1 ⟨rfl, k1⟩
  have g1 := k1.heap (by simp) g0
  obtain ⟨c0, c1, z0, z1, e0, e1⟩ := box2 g1 (.slice none 0 0) (.bool false)
  go_wp2
  exact bodyPost_ret (v := .tuple #[.agg #[.slice none 0 0, .bool false], .bool false]) (by simp [results, Tryf.results5, go_sem, e0, e1]) rfl ⟨rfl, ((k0.trans0 k1).setCell (by right; simp) _).setCell (by right; simp) _⟩

set_option maxHeartbeats 400000 in
theorem zz_c (L : Int) (ad : Option Addr) (n cap : Nat) (w : World) :
    Calls Tryf.prog 4 #[.agg #[.int .i64 L, .slice ad n cap]] w fun e w' => e = .returned (.bool (decide (n ≤ 2147483647))) ∧ Kept [] w w' := by
  by_cases h : n ≤ 2147483647
  · have h' : ¬ (2147483647 : Int) < (n : Int) := by omega
    have hd : decide (n ≤ 2147483647) = true := by simpa using h
    rw [hd]
    clear h hd
    go_enter Tryf.func4, Tryf.ntmps4
    go_wp2
    go_ret
    exact ⟨rfl, (Kept.refl _ _).alloc _⟩
  · have h' : (2147483647 : Int) < (n : Int) := by omega
    have hd : decide (n ≤ 2147483647) = false := by simpa using h
    rw [hd]
    clear h hd
    go_enter Tryf.func4, Tryf.ntmps4
    go_wp2
    go_ret
    exact ⟨rfl, (Kept.refl _ _).alloc _⟩

end Go.Proofs.YthogmlblppcjoaaFmt

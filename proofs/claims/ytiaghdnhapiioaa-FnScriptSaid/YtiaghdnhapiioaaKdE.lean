/-
  The reference's steps 4 and 5: setting and flipping a range.
-/
import Derived.BigRegion
import Derived.Deep.Cut
import Derived.Test.YtiaghdnhapiioaaCl
namespace Go.Proofs.Ytiaghdnhapiioaa
set_option linter.unusedSimpArgs false
set_option linter.unusedVariables false
open Go.RowKit

/-- The bits of a set with a range set (four) or flipped. -/
def rngF (four : Bool) (n : Nat) (f : Nat → Bool) (a e j : Nat) : Bool := (fAt n f (j : Int) && (decide (j < a) || decide (e ≤ j))) || (decide (a ≤ j) && decide (j < e) && (four || !fAt n f (j : Int)))

set_option maxHeartbeats 2000000 in
theorem cl4_c (R b c n i A B : Nat) (f : Nat → Bool) (t : Bool) (w : World) (hD : DoB w R b c n t 4 A B) (hs : SpecSet w (.agg #[.slice (some ⟨b, 0, none⟩) n c, .bool t]) n f t) (hi : i ≤ 20000) (hA : A ≤ 20000) (hB : B ≤ 20000) (hAB : A < B) :
    Calls Try.prog 31 ((#[] : Array Value).push (.int .i64 i) ++ #[.pointer (some ⟨R, 0, none⟩), .pointer (some ⟨R + 1, 0, none⟩)]) w fun e w' => e = .returned (.bool (rngF true n f A B i)) ∧ Kept [] w w' := by
  obtain ⟨a0, a1, a2, a3, a4, a5, a6, a7, a8⟩ := hD.cells
  by_cases h1 : (i : Int) < (A : Int)
  · have h2 : ¬ (B : Int) ≤ (i : Int) := by omega
    have h3 : ¬ (A : Int) ≤ (i : Int) := by omega
    have h4 : (i : Int) < (B : Int) := by omega
    have d1 : decide (i < A) = true := by simp; omega
    have d2 : decide (B ≤ i) = false := by simp; omega
    have d3 : decide (A ≤ i) = false := by simp; omega
    have d4 : decide (i < B) = true := by simp; omega
    cases hx : fAt n f (i : Int) with
    | true =>
      have hE : rngF true n f A B i = true := by unfold rngF; rw [hx, d1, d2, d3, d4]; rfl
      rw [hE]
      have HX := Lib.hid hx
      clear hx hE
      go_enter Try.func31, Try.ntmps31
      go_wp2_with fail
      refine (at_c _ n f t (i) _ hs).mono ?_
      rintro e w1 ⟨rfl, k1⟩
      obtain ⟨e0, e1, e2, e3, e4, _, _, _, _⟩ := (hD.kept k1).cells
      have hs1 := hs.kept k1
      rw [HX.out]
      go_wp2_with fail
      go_ret
      exact ⟨rfl, k1⟩
    | false =>
      have hE : rngF true n f A B i = false := by unfold rngF; rw [hx, d1, d2, d3, d4]; rfl
      rw [hE]
      have HX := Lib.hid hx
      clear hx hE
      go_enter Try.func31, Try.ntmps31
      go_wp2_with fail
      refine (at_c _ n f t (i) _ hs).mono ?_
      rintro e w1 ⟨rfl, k1⟩
      obtain ⟨e0, e1, e2, e3, e4, _, _, _, _⟩ := (hD.kept k1).cells
      have hs1 := hs.kept k1
      rw [HX.out]
      go_wp2_with fail
      go_ret
      exact ⟨rfl, k1⟩
  · have h3 : (A : Int) ≤ (i : Int) := by omega
    by_cases h2 : (B : Int) ≤ (i : Int)
    · have h4 : ¬ (i : Int) < (B : Int) := by omega
      have d1 : decide (i < A) = false := by simp; omega
      have d2 : decide (B ≤ i) = true := by simp; omega
      have d3 : decide (A ≤ i) = true := by simp; omega
      have d4 : decide (i < B) = false := by simp; omega
      cases hx : fAt n f (i : Int) with
      | true =>
        have hE : rngF true n f A B i = true := by unfold rngF; rw [hx, d1, d2, d3, d4]; rfl
        rw [hE]
        have HX := Lib.hid hx
        clear hx hE
        go_enter Try.func31, Try.ntmps31
        go_wp2_with fail
        refine (at_c _ n f t (i) _ hs).mono ?_
        rintro e w1 ⟨rfl, k1⟩
        obtain ⟨e0, e1, e2, e3, e4, _, _, _, _⟩ := (hD.kept k1).cells
        have hs1 := hs.kept k1
        rw [HX.out]
        go_wp2_with fail
        go_ret
        exact ⟨rfl, k1⟩
      | false =>
        have hE : rngF true n f A B i = false := by unfold rngF; rw [hx, d1, d2, d3, d4]; rfl
        rw [hE]
        have HX := Lib.hid hx
        clear hx hE
        go_enter Try.func31, Try.ntmps31
        go_wp2_with fail
        refine (at_c _ n f t (i) _ hs).mono ?_
        rintro e w1 ⟨rfl, k1⟩
        obtain ⟨e0, e1, e2, e3, e4, _, _, _, _⟩ := (hD.kept k1).cells
        have hs1 := hs.kept k1
        rw [HX.out]
        go_wp2_with fail
        go_ret
        exact ⟨rfl, k1⟩
    · have h4 : (i : Int) < (B : Int) := by omega
      have d1 : decide (i < A) = false := by simp; omega
      have d2 : decide (B ≤ i) = false := by simp; omega
      have d3 : decide (A ≤ i) = true := by simp; omega
      have d4 : decide (i < B) = true := by simp; omega
      cases hx : fAt n f (i : Int) with
      | true =>
        have hE : rngF true n f A B i = true := by unfold rngF; rw [hx, d1, d2, d3, d4]; rfl
        rw [hE]
        have HX := Lib.hid hx
        clear hx hE
        go_enter Try.func31, Try.ntmps31
        go_wp2_with fail
        refine (at_c _ n f t (i) _ hs).mono ?_
        rintro e w1 ⟨rfl, k1⟩
        obtain ⟨e0, e1, e2, e3, e4, _, _, _, _⟩ := (hD.kept k1).cells
        have hs1 := hs.kept k1
        rw [HX.out]
        go_wp2_with fail
        go_ret
        exact ⟨rfl, k1⟩
      | false =>
        have hE : rngF true n f A B i = true := by unfold rngF; rw [hx, d1, d2, d3, d4]; rfl
        rw [hE]
        have HX := Lib.hid hx
        clear hx hE
        go_enter Try.func31, Try.ntmps31
        go_wp2_with fail
        refine (at_c _ n f t (i) _ hs).mono ?_
        rintro e w1 ⟨rfl, k1⟩
        obtain ⟨e0, e1, e2, e3, e4, _, _, _, _⟩ := (hD.kept k1).cells
        have hs1 := hs.kept k1
        rw [HX.out]
        go_wp2_with fail
        go_ret
        exact ⟨rfl, k1⟩

set_option maxHeartbeats 2000000 in
theorem cl5_c (R b c n i A B : Nat) (f : Nat → Bool) (t : Bool) (w : World) (hD : DoB w R b c n t 5 A B) (hs : SpecSet w (.agg #[.slice (some ⟨b, 0, none⟩) n c, .bool t]) n f t) (hi : i ≤ 20000) (hA : A ≤ 20000) (hB : B ≤ 20000) (hAB : A < B) :
    Calls Try.prog 31 ((#[] : Array Value).push (.int .i64 i) ++ #[.pointer (some ⟨R, 0, none⟩), .pointer (some ⟨R + 1, 0, none⟩)]) w fun e w' => e = .returned (.bool (rngF false n f A B i)) ∧ Kept [] w w' := by
  obtain ⟨a0, a1, a2, a3, a4, a5, a6, a7, a8⟩ := hD.cells
  by_cases h1 : (i : Int) < (A : Int)
  · have h2 : ¬ (B : Int) ≤ (i : Int) := by omega
    have h3 : ¬ (A : Int) ≤ (i : Int) := by omega
    have h4 : (i : Int) < (B : Int) := by omega
    have d1 : decide (i < A) = true := by simp; omega
    have d2 : decide (B ≤ i) = false := by simp; omega
    have d3 : decide (A ≤ i) = false := by simp; omega
    have d4 : decide (i < B) = true := by simp; omega
    cases hx : fAt n f (i : Int) with
    | true =>
      have hE : rngF false n f A B i = true := by unfold rngF; rw [hx, d1, d2, d3, d4]; rfl
      rw [hE]
      have HX := Lib.hid hx
      clear hx hE
      go_enter Try.func31, Try.ntmps31
      go_wp2_with fail
      refine (at_c _ n f t (i) _ hs).mono ?_
      rintro e w1 ⟨rfl, k1⟩
      obtain ⟨e0, e1, e2, e3, e4, _, _, _, _⟩ := (hD.kept k1).cells
      have hs1 := hs.kept k1
      rw [HX.out]
      go_wp2_with fail
      go_ret
      exact ⟨rfl, k1⟩
    | false =>
      have hE : rngF false n f A B i = false := by unfold rngF; rw [hx, d1, d2, d3, d4]; rfl
      rw [hE]
      have HX := Lib.hid hx
      clear hx hE
      go_enter Try.func31, Try.ntmps31
      go_wp2_with fail
      refine (at_c _ n f t (i) _ hs).mono ?_
      rintro e w1 ⟨rfl, k1⟩
      obtain ⟨e0, e1, e2, e3, e4, _, _, _, _⟩ := (hD.kept k1).cells
      have hs1 := hs.kept k1
      rw [HX.out]
      go_wp2_with fail
      go_ret
      exact ⟨rfl, k1⟩
  · have h3 : (A : Int) ≤ (i : Int) := by omega
    by_cases h2 : (B : Int) ≤ (i : Int)
    · have h4 : ¬ (i : Int) < (B : Int) := by omega
      have d1 : decide (i < A) = false := by simp; omega
      have d2 : decide (B ≤ i) = true := by simp; omega
      have d3 : decide (A ≤ i) = true := by simp; omega
      have d4 : decide (i < B) = false := by simp; omega
      cases hx : fAt n f (i : Int) with
      | true =>
        have hE : rngF false n f A B i = true := by unfold rngF; rw [hx, d1, d2, d3, d4]; rfl
        rw [hE]
        have HX := Lib.hid hx
        clear hx hE
        go_enter Try.func31, Try.ntmps31
        go_wp2_with fail
        refine (at_c _ n f t (i) _ hs).mono ?_
        rintro e w1 ⟨rfl, k1⟩
        obtain ⟨e0, e1, e2, e3, e4, _, _, _, _⟩ := (hD.kept k1).cells
        have hs1 := hs.kept k1
        rw [HX.out]
        go_wp2_with fail
        go_ret
        exact ⟨rfl, k1⟩
      | false =>
        have hE : rngF false n f A B i = false := by unfold rngF; rw [hx, d1, d2, d3, d4]; rfl
        rw [hE]
        have HX := Lib.hid hx
        clear hx hE
        go_enter Try.func31, Try.ntmps31
        go_wp2_with fail
        refine (at_c _ n f t (i) _ hs).mono ?_
        rintro e w1 ⟨rfl, k1⟩
        obtain ⟨e0, e1, e2, e3, e4, _, _, _, _⟩ := (hD.kept k1).cells
        have hs1 := hs.kept k1
        rw [HX.out]
        go_wp2_with fail
        go_ret
        exact ⟨rfl, k1⟩
    · have h4 : (i : Int) < (B : Int) := by omega
      have d1 : decide (i < A) = false := by simp; omega
      have d2 : decide (B ≤ i) = false := by simp; omega
      have d3 : decide (A ≤ i) = true := by simp; omega
      have d4 : decide (i < B) = true := by simp; omega
      cases hx : fAt n f (i : Int) with
      | true =>
        have hE : rngF false n f A B i = false := by unfold rngF; rw [hx, d1, d2, d3, d4]; rfl
        rw [hE]
        have HX := Lib.hid hx
        clear hx hE
        go_enter Try.func31, Try.ntmps31
        go_wp2_with fail
        refine (at_c _ n f t (i) _ hs).mono ?_
        rintro e w1 ⟨rfl, k1⟩
        obtain ⟨e0, e1, e2, e3, e4, _, _, _, _⟩ := (hD.kept k1).cells
        have hs1 := hs.kept k1
        rw [HX.out]
        go_wp2_with fail
        refine (at_c _ n f t (i) _ hs1).mono ?_
        rintro e w2 ⟨rfl, k2⟩
        rw [HX.out]
        go_wp2_with fail
        go_ret
        exact ⟨rfl, k1.trans0 k2⟩
      | false =>
        have hE : rngF false n f A B i = true := by unfold rngF; rw [hx, d1, d2, d3, d4]; rfl
        rw [hE]
        have HX := Lib.hid hx
        clear hx hE
        go_enter Try.func31, Try.ntmps31
        go_wp2_with fail
        refine (at_c _ n f t (i) _ hs).mono ?_
        rintro e w1 ⟨rfl, k1⟩
        obtain ⟨e0, e1, e2, e3, e4, _, _, _, _⟩ := (hD.kept k1).cells
        have hs1 := hs.kept k1
        rw [HX.out]
        go_wp2_with fail
        refine (at_c _ n f t (i) _ hs1).mono ?_
        rintro e w2 ⟨rfl, k2⟩
        rw [HX.out]
        go_wp2_with fail
        go_ret
        exact ⟨rfl, k1.trans0 k2⟩

set_option maxHeartbeats 2000000 in
set_option maxRecDepth 100000 in
theorem dk4_c (s : Value) (n i k : Nat) (f : Nat → Bool) (t : Bool) (w : World) (hs : SpecSet w s n f t) (hn : n ≤ 6000) (hi : i ≤ 2500) (hk : k ≤ 2500) (hik : i < k) (hkn : k ≤ n) :
    Calls Try.prog 13 #[s, .agg #[.int .i64 4, .int .i64 i, .int .i64 k]] w fun e w' => ∃ s', e = .returned (.tuple #[s', .bool true]) ∧ SpecSet w' s' n (rngF true n f i k) t ∧ Kept [] w w' := by
  obtain ⟨b, c, rfl⟩ := hs.shape
  have D0 := DoB.start w b c n t 4 i k
  have k0 : Kept [] w (((w.alloc (.cells #[.slice (some ⟨b, 0, none⟩) n c, .bool t] 28)).alloc (.cells #[.int .i64 4, .int .i64 i, .int .i64 k] 34)).alloc (.cells #[.slice none 0 0, .bool false] 28)) := (((Kept.refl _ _).alloc _).alloc _).alloc _
  have h3 : ¬ (6000 : Int) < (n : Int) := by omega
  have h1 : ¬ (i : Int) < 0 := by omega
  have h2 : ¬ (2500 : Int) < (i : Int) := by omega
  have hB1 : ¬ (k : Int) < 0 := by omega
  have hB2 : ¬ (2500 : Int) < (k : Int) := by omega
  have h4 : ¬ (k : Int) ≤ (i : Int) := by omega
  have h5 : ¬ (n : Int) < (k : Int) := by omega
  go_enter Try.func13, Try.ntmps13
  go_wp2_with fail
  refine (from_c n _ rfl 23 #[.agg #[.slice (some ⟨b, 0, none⟩) n c, .bool t]] #[] _ _ (by omega) callFunc_At (at_closure _ n f t _ (hs.kept k0) n)).mono ?_
  rintro e w1 ⟨b1, rfl, r1, n1, k1⟩
  have D1 := D0.kept k1
  have hs' := hs.kept (k0.trans0 k1)
  obtain ⟨a0, a1, a2, a3, a4, a5, a6, a7, a8⟩ := D1.cells
  obtain ⟨l1, l2, l3⟩ := D1.lt
  have hb1w : w.heap.size ≤ b1 := by simp at n1; omega
  have hb1z : b1 < w1.heap.size := r1.lt
  go_wp2_with fail
  have kz : Kept [] w1 (w1.alloc (.cells #[.slice (some ⟨b1, 0, none⟩) n n, .bool t] 28)) := (Kept.refl _ _).alloc _
  have D2 := D1.kept kz
  have hs2 := hs'.kept kz
  refine (from_c n _ (by omega) 31 #[] #[.pointer (some ⟨w.heap.size, 0, none⟩), .pointer (some ⟨w.heap.size + 1, 0, none⟩)] (rngF true n f i k) _ (by omega) (fun args w => by kernel_rfl) (fun j w' hj q => cl4_c w.heap.size b c n j i k f t w' (D2.kept q) (hs2.kept q) (by omega) (by omega) (by omega) hik)).mono ?_
  rintro e w2 ⟨b2, rfl, r2, n2, k2⟩
  have gz := k2.heap (by simp) (heap_alloc_new w1 (.cells #[.slice (some ⟨b1, 0, none⟩) n n, .bool t] 28))
  have D2 := D2.kept k2
  have hZ : w.heap.size + 1 + 1 < w1.heap.size := l3
  have hb2w : w.heap.size ≤ b2 := by have := k1.size; simp at n2 this; omega
  clear a0 a1 a2 a3 a4 a5 a6 a7 a8
  have hbz := r2.ne gz (by decide)
  have hb2 := r2.ne D2.2.2 (by decide)
  obtain ⟨a0, a1, a2, a3, a4, a5, a6, a7, a8⟩ := D2.cells
  obtain ⟨z0, z1, z2, z3, z4, z5⟩ := box2 gz (.slice (some ⟨b2, 0, none⟩) n n) (.bool true)
  have gW := setCell_heap_same (o := 1) (setCell_heap_same (o := 0) gz (.slice (some ⟨b2, 0, none⟩) n n)) (.bool true)
  have DW := (D2.other (o := 0) hZ (.slice (some ⟨b2, 0, none⟩) n n)).other (o := 1) hZ (.bool true)
  have rW := (r2.other (o := 0) hbz (.slice (some ⟨b2, 0, none⟩) n n)).other (o := 1) hbz (.bool true)
  have kW : Kept [] w ((w2.setCell ⟨w1.heap.size, 0, none⟩ (.slice (some ⟨b2, 0, none⟩) n n)).setCell ⟨w1.heap.size, 1, none⟩ (.bool true)) :=
    ((((k0.trans0 k1).trans0 kz).trans0 k2).setCell (by right; simp; omega) _).setCell (by right; simp; omega) _
  have gV := setCell_heap_same (o := 1) gW (.bool t)
  have DV := DW.other (o := 1) hZ (.bool t)
  have rV := rW.other (o := 1) hbz (.bool t)
  have kV := kW.setCell (p := ⟨w1.heap.size, 1, none⟩) (by right; simp; omega) (.bool t)
  have hD := DV.2.2
  obtain ⟨_, u1, _, u3, _, _⟩ := box2 gW (.bool true) (.bool true)
  have a1' : ((w2.setCell ⟨w1.heap.size, 0, none⟩ (.slice (some ⟨b2, 0, none⟩) n n)).setCell ⟨w1.heap.size, 1, none⟩ (.bool true)).cell? ⟨w.heap.size, 1, none⟩ = some (.bool t) := DW.cells.2.1
  obtain ⟨z8, z9, _, _, _, _⟩ := box2 gV (.bool true) (.bool true)
  go_upto_region 27 with fail
  clear a0 a1 a2 a3 a4 a5 a6 a7 a8 z0 z1 z2 z3 z4 z5 u1 u3 a1' z8 z9 gW DW rW kW hD
  generalize (((w2.setCell ⟨w1.heap.size, 0, none⟩ (.slice (some ⟨b2, 0, none⟩) n n)).setCell ⟨w1.heap.size, 1, none⟩ (.bool true)).setCell ⟨w1.heap.size, 1, none⟩ (.bool t)) = V at *
  have hD := DV.2.2
  obtain ⟨v0, v1, _, _, _, _⟩ := box2 gV (.bool true) (.bool true)
  obtain ⟨_, _, _, p3, p4, _, _, _, _⟩ := DV.cells
  obtain ⟨y0, y1, y2, y3, y4, y5⟩ := box2 hD (.slice (some ⟨b2, 0, none⟩) n n) (.bool t)
  go_wp2_with fail
  refine bodyPost_ret (v := .tuple #[.agg #[.slice (some ⟨b2, 0, none⟩) n n, .bool t], .bool true]) (by simp [results, Try.results13, go_sem, y4, y5]) rfl ⟨_, rfl, ?_, (kV.setCell (by right; simp; omega) _).setCell (by right; simp; omega) _⟩
  exact ⟨b2, n, rfl, (rV.other hb2 _).other hb2 _⟩

set_option maxHeartbeats 2000000 in
set_option maxRecDepth 100000 in
theorem dk4x_c (s : Value) (n i k : Nat) (f : Nat → Bool) (t : Bool) (w : World) (hs : SpecSet w s n f t) (hn : n ≤ 6000) (hi : i ≤ 2500) (hk : k ≤ 2500) (hik : i < k) (hkn : n < k) :
    Calls Try.prog 13 #[s, .agg #[.int .i64 4, .int .i64 i, .int .i64 k]] w fun e w' => ∃ s', e = .returned (.tuple #[s', .bool true]) ∧ SpecSet w' s' (lst (rngF true n f i k) k) (rngF true n f i k) false ∧ Kept [] w w' := by
  obtain ⟨b, c, rfl⟩ := hs.shape
  have D0 := DoB.start w b c n t 4 i k
  have k0 : Kept [] w (((w.alloc (.cells #[.slice (some ⟨b, 0, none⟩) n c, .bool t] 28)).alloc (.cells #[.int .i64 4, .int .i64 i, .int .i64 k] 34)).alloc (.cells #[.slice none 0 0, .bool false] 28)) := (((Kept.refl _ _).alloc _).alloc _).alloc _
  have h3 : ¬ (6000 : Int) < (n : Int) := by omega
  have h1 : ¬ (i : Int) < 0 := by omega
  have h2 : ¬ (2500 : Int) < (i : Int) := by omega
  have hB1 : ¬ (k : Int) < 0 := by omega
  have hB2 : ¬ (2500 : Int) < (k : Int) := by omega
  have h4 : ¬ (k : Int) ≤ (i : Int) := by omega
  have h5 : (n : Int) < (k : Int) := by omega
  go_enter Try.func13, Try.ntmps13
  go_wp2_with fail
  refine (from_c n _ rfl 23 #[.agg #[.slice (some ⟨b, 0, none⟩) n c, .bool t]] #[] _ _ (by omega) callFunc_At (at_closure _ n f t _ (hs.kept k0) n)).mono ?_
  rintro e w1 ⟨b1, rfl, r1, n1, k1⟩
  have D1 := D0.kept k1
  have hs' := hs.kept (k0.trans0 k1)
  obtain ⟨a0, a1, a2, a3, a4, a5, a6, a7, a8⟩ := D1.cells
  obtain ⟨l1, l2, l3⟩ := D1.lt
  have hb1w : w.heap.size ≤ b1 := by simp at n1; omega
  have hb1z : b1 < w1.heap.size := r1.lt
  go_wp2_with fail
  have kz : Kept [] w1 (w1.alloc (.cells #[.slice (some ⟨b1, 0, none⟩) n n, .bool t] 28)) := (Kept.refl _ _).alloc _
  have D2 := D1.kept kz
  have hs2 := hs'.kept kz
  refine (from_c k _ (by omega) 31 #[] #[.pointer (some ⟨w.heap.size, 0, none⟩), .pointer (some ⟨w.heap.size + 1, 0, none⟩)] (rngF true n f i k) _ (by omega) (fun args w => by kernel_rfl) (fun j w' hj q => cl4_c w.heap.size b c n j i k f t w' (D2.kept q) (hs2.kept q) (by omega) (by omega) (by omega) hik)).mono ?_
  rintro e w2 ⟨b2, rfl, r2, n2, k2⟩
  have gz := k2.heap (by simp) (heap_alloc_new w1 (.cells #[.slice (some ⟨b1, 0, none⟩) n n, .bool t] 28))
  have D2 := D2.kept k2
  have hZ : w.heap.size + 1 + 1 < w1.heap.size := l3
  have hb2w : w.heap.size ≤ b2 := by have := k1.size; simp at n2 this; omega
  clear a0 a1 a2 a3 a4 a5 a6 a7 a8
  have hbz := r2.ne gz (by decide)
  have hb2 := r2.ne D2.2.2 (by decide)
  obtain ⟨a0, a1, a2, a3, a4, a5, a6, a7, a8⟩ := D2.cells
  obtain ⟨z0, z1, z2, z3, z4, z5⟩ := box2 gz (.slice (some ⟨b2, 0, none⟩) k k) (.bool true)
  have gW := setCell_heap_same (o := 1) (setCell_heap_same (o := 0) gz (.slice (some ⟨b2, 0, none⟩) k k)) (.bool true)
  have DW := (D2.other (o := 0) hZ (.slice (some ⟨b2, 0, none⟩) k k)).other (o := 1) hZ (.bool true)
  have rW := (r2.other (o := 0) hbz (.slice (some ⟨b2, 0, none⟩) k k)).other (o := 1) hbz (.bool true)
  have kW : Kept [] w ((w2.setCell ⟨w1.heap.size, 0, none⟩ (.slice (some ⟨b2, 0, none⟩) k k)).setCell ⟨w1.heap.size, 1, none⟩ (.bool true)) :=
    ((((k0.trans0 k1).trans0 kz).trans0 k2).setCell (by right; simp; omega) _).setCell (by right; simp; omega) _
  have gV := setCell_heap_same (o := 1) gW (.bool t)
  have DV := DW.other (o := 1) hZ (.bool t)
  have rV := rW.other (o := 1) hbz (.bool t)
  have kV := kW.setCell (p := ⟨w1.heap.size, 1, none⟩) (by right; simp; omega) (.bool t)
  have hD := DV.2.2
  obtain ⟨_, u1, _, u3, _, _⟩ := box2 gW (.bool true) (.bool true)
  have a1' : ((w2.setCell ⟨w1.heap.size, 0, none⟩ (.slice (some ⟨b2, 0, none⟩) k k)).setCell ⟨w1.heap.size, 1, none⟩ (.bool true)).cell? ⟨w.heap.size, 1, none⟩ = some (.bool t) := DW.cells.2.1
  obtain ⟨z8, z9, _, _, _, _⟩ := box2 gV (.bool true) (.bool true)
  go_upto_region 27 with fail
  clear a0 a1 a2 a3 a4 a5 a6 a7 a8 z0 z1 z2 z3 z4 z5 u1 u3 a1' z8 z9 gW DW rW kW hD
  generalize (((w2.setCell ⟨w1.heap.size, 0, none⟩ (.slice (some ⟨b2, 0, none⟩) k k)).setCell ⟨w1.heap.size, 1, none⟩ (.bool true)).setCell ⟨w1.heap.size, 1, none⟩ (.bool t)) = V at *
  have hD := DV.2.2
  obtain ⟨v0, v1, _, _, _, _⟩ := box2 gV (.bool true) (.bool true)
  obtain ⟨_, _, _, p3, p4, _, _, _, _⟩ := DV.cells
  go_wp2_with fail
  refine (least_c _ k (rngF true n f i k) t _ ⟨b2, k, rfl, rV⟩ (by omega)).mono ?_
  rintro e w9 ⟨s9, rfl, ⟨b9, c9, rfl, r9⟩, k9⟩
  obtain ⟨q9, hql⟩ : ∃ q9, lst (rngF true n f i k) k = q9 := ⟨_, rfl⟩
  rw [hql] at r9
  have hD9 := k9.heap (by simp) DV.2.2
  have hb9 := r9.ne hD9 (by decide)
  have kV := kV.trans0 k9
  have HQ := Lib.hid hql
  clear hql
  obtain ⟨y0, y1, y2, y3, y4, y5⟩ := box2 hD9 (.slice (some ⟨b9, 0, none⟩) q9 c9) (.bool false)
  rw [HQ.out]
  go_wp2_with fail
  refine bodyPost_ret (v := .tuple #[.agg #[.slice (some ⟨b9, 0, none⟩) q9 c9, .bool false], .bool true]) (by simp [results, Try.results13, go_sem, y4, y5]) rfl ⟨_, rfl, ?_, (kV.setCell (by right; simp; omega) _).setCell (by right; simp; omega) _⟩
  rw [HQ.out]
  exact ⟨b9, c9, rfl, (r9.other hb9 _).other hb9 _⟩

set_option maxHeartbeats 2000000 in
set_option maxRecDepth 100000 in
theorem dk4u_c (s : Value) (n i k : Nat) (f : Nat → Bool) (t : Bool) (w : World) (hs : SpecSet w s n f t) (hn : n ≤ 6000) (hi : i ≤ 2500) (hk : k ≤ 2500) (hik : k ≤ i) :
    Calls Try.prog 13 #[s, .agg #[.int .i64 4, .int .i64 i, .int .i64 k]] w fun e w' => e = .returned (.tuple #[s, .bool false]) ∧ Kept [] w w' := by
  obtain ⟨b, c, rfl⟩ := hs.shape
  have D0 := DoB.start w b c n t 4 i k
  have k0 : Kept [] w (((w.alloc (.cells #[.slice (some ⟨b, 0, none⟩) n c, .bool t] 28)).alloc (.cells #[.int .i64 4, .int .i64 i, .int .i64 k] 34)).alloc (.cells #[.slice none 0 0, .bool false] 28)) := (((Kept.refl _ _).alloc _).alloc _).alloc _
  have h3 : ¬ (6000 : Int) < (n : Int) := by omega
  have h1 : ¬ (i : Int) < 0 := by omega
  have h2 : ¬ (2500 : Int) < (i : Int) := by omega
  have hB1 : ¬ (k : Int) < 0 := by omega
  have hB2 : ¬ (2500 : Int) < (k : Int) := by omega
  have h4 : (k : Int) ≤ (i : Int) := by omega
  go_enter Try.func13, Try.ntmps13
  go_wp2_with fail
  refine (from_c n _ rfl 23 #[.agg #[.slice (some ⟨b, 0, none⟩) n c, .bool t]] #[] _ _ (by omega) callFunc_At (at_closure _ n f t _ (hs.kept k0) n)).mono ?_
  rintro e w1 ⟨b1, rfl, r1, n1, k1⟩
  have D1 := D0.kept k1
  have hs' := hs.kept (k0.trans0 k1)
  obtain ⟨a0, a1, a2, a3, a4, a5, a6, a7, a8⟩ := D1.cells
  obtain ⟨l1, l2, l3⟩ := D1.lt
  have hb1w : w.heap.size ≤ b1 := by simp at n1; omega
  have hb1z : b1 < w1.heap.size := r1.lt
  obtain ⟨y4, y5⟩ := box2A D1.2.2 (.slice (some ⟨b, 0, none⟩) n c) (.bool t) (.cells #[.slice (some ⟨b1, 0, none⟩) n n, .bool t] 28)
  have kV := k0.trans0 k1
  go_wp2_with fail
  refine bodyPost_ret (v := .tuple #[.agg #[.slice (some ⟨b, 0, none⟩) n c, .bool t], .bool false]) (by simp [results, Try.results13, go_sem, y4, y5]) rfl ⟨rfl, (((kV.setCell (by right; simp; omega) _).setCell (by right; simp; omega) _).alloc _)⟩

set_option maxHeartbeats 2000000 in
set_option maxRecDepth 100000 in
theorem dk5_c (s : Value) (n i k : Nat) (f : Nat → Bool) (t : Bool) (w : World) (hs : SpecSet w s n f t) (hn : n ≤ 6000) (hi : i ≤ 2500) (hk : k ≤ 2500) (hik : i < k) (hkn : k ≤ n) :
    Calls Try.prog 13 #[s, .agg #[.int .i64 5, .int .i64 i, .int .i64 k]] w fun e w' => ∃ s', e = .returned (.tuple #[s', .bool true]) ∧ SpecSet w' s' n (rngF false n f i k) t ∧ Kept [] w w' := by
  obtain ⟨b, c, rfl⟩ := hs.shape
  have D0 := DoB.start w b c n t 5 i k
  have k0 : Kept [] w (((w.alloc (.cells #[.slice (some ⟨b, 0, none⟩) n c, .bool t] 28)).alloc (.cells #[.int .i64 5, .int .i64 i, .int .i64 k] 34)).alloc (.cells #[.slice none 0 0, .bool false] 28)) := (((Kept.refl _ _).alloc _).alloc _).alloc _
  have h3 : ¬ (6000 : Int) < (n : Int) := by omega
  have h1 : ¬ (i : Int) < 0 := by omega
  have h2 : ¬ (2500 : Int) < (i : Int) := by omega
  have hB1 : ¬ (k : Int) < 0 := by omega
  have hB2 : ¬ (2500 : Int) < (k : Int) := by omega
  have h4 : ¬ (k : Int) ≤ (i : Int) := by omega
  have h5 : ¬ (n : Int) < (k : Int) := by omega
  go_enter Try.func13, Try.ntmps13
  go_wp2_with fail
  refine (from_c n _ rfl 23 #[.agg #[.slice (some ⟨b, 0, none⟩) n c, .bool t]] #[] _ _ (by omega) callFunc_At (at_closure _ n f t _ (hs.kept k0) n)).mono ?_
  rintro e w1 ⟨b1, rfl, r1, n1, k1⟩
  have D1 := D0.kept k1
  have hs' := hs.kept (k0.trans0 k1)
  obtain ⟨a0, a1, a2, a3, a4, a5, a6, a7, a8⟩ := D1.cells
  obtain ⟨l1, l2, l3⟩ := D1.lt
  have hb1w : w.heap.size ≤ b1 := by simp at n1; omega
  have hb1z : b1 < w1.heap.size := r1.lt
  go_wp2_with fail
  have kz : Kept [] w1 (w1.alloc (.cells #[.slice (some ⟨b1, 0, none⟩) n n, .bool t] 28)) := (Kept.refl _ _).alloc _
  have D2 := D1.kept kz
  have hs2 := hs'.kept kz
  refine (from_c n _ (by omega) 31 #[] #[.pointer (some ⟨w.heap.size, 0, none⟩), .pointer (some ⟨w.heap.size + 1, 0, none⟩)] (rngF false n f i k) _ (by omega) (fun args w => by kernel_rfl) (fun j w' hj q => cl5_c w.heap.size b c n j i k f t w' (D2.kept q) (hs2.kept q) (by omega) (by omega) (by omega) hik)).mono ?_
  rintro e w2 ⟨b2, rfl, r2, n2, k2⟩
  have gz := k2.heap (by simp) (heap_alloc_new w1 (.cells #[.slice (some ⟨b1, 0, none⟩) n n, .bool t] 28))
  have D2 := D2.kept k2
  have hZ : w.heap.size + 1 + 1 < w1.heap.size := l3
  have hb2w : w.heap.size ≤ b2 := by have := k1.size; simp at n2 this; omega
  clear a0 a1 a2 a3 a4 a5 a6 a7 a8
  have hbz := r2.ne gz (by decide)
  have hb2 := r2.ne D2.2.2 (by decide)
  obtain ⟨a0, a1, a2, a3, a4, a5, a6, a7, a8⟩ := D2.cells
  obtain ⟨z0, z1, z2, z3, z4, z5⟩ := box2 gz (.slice (some ⟨b2, 0, none⟩) n n) (.bool true)
  have gW := setCell_heap_same (o := 1) (setCell_heap_same (o := 0) gz (.slice (some ⟨b2, 0, none⟩) n n)) (.bool true)
  have DW := (D2.other (o := 0) hZ (.slice (some ⟨b2, 0, none⟩) n n)).other (o := 1) hZ (.bool true)
  have rW := (r2.other (o := 0) hbz (.slice (some ⟨b2, 0, none⟩) n n)).other (o := 1) hbz (.bool true)
  have kW : Kept [] w ((w2.setCell ⟨w1.heap.size, 0, none⟩ (.slice (some ⟨b2, 0, none⟩) n n)).setCell ⟨w1.heap.size, 1, none⟩ (.bool true)) :=
    ((((k0.trans0 k1).trans0 kz).trans0 k2).setCell (by right; simp; omega) _).setCell (by right; simp; omega) _
  have gV := setCell_heap_same (o := 1) gW (.bool t)
  have DV := DW.other (o := 1) hZ (.bool t)
  have rV := rW.other (o := 1) hbz (.bool t)
  have kV := kW.setCell (p := ⟨w1.heap.size, 1, none⟩) (by right; simp; omega) (.bool t)
  have hD := DV.2.2
  obtain ⟨_, u1, _, u3, _, _⟩ := box2 gW (.bool true) (.bool true)
  have a1' : ((w2.setCell ⟨w1.heap.size, 0, none⟩ (.slice (some ⟨b2, 0, none⟩) n n)).setCell ⟨w1.heap.size, 1, none⟩ (.bool true)).cell? ⟨w.heap.size, 1, none⟩ = some (.bool t) := DW.cells.2.1
  obtain ⟨z8, z9, _, _, _, _⟩ := box2 gV (.bool true) (.bool true)
  go_upto_region 27 with fail
  clear a0 a1 a2 a3 a4 a5 a6 a7 a8 z0 z1 z2 z3 z4 z5 u1 u3 a1' z8 z9 gW DW rW kW hD
  generalize (((w2.setCell ⟨w1.heap.size, 0, none⟩ (.slice (some ⟨b2, 0, none⟩) n n)).setCell ⟨w1.heap.size, 1, none⟩ (.bool true)).setCell ⟨w1.heap.size, 1, none⟩ (.bool t)) = V at *
  have hD := DV.2.2
  obtain ⟨v0, v1, _, _, _, _⟩ := box2 gV (.bool true) (.bool true)
  obtain ⟨_, _, _, p3, p4, _, _, _, _⟩ := DV.cells
  obtain ⟨y0, y1, y2, y3, y4, y5⟩ := box2 hD (.slice (some ⟨b2, 0, none⟩) n n) (.bool t)
  go_wp2_with fail
  refine bodyPost_ret (v := .tuple #[.agg #[.slice (some ⟨b2, 0, none⟩) n n, .bool t], .bool true]) (by simp [results, Try.results13, go_sem, y4, y5]) rfl ⟨_, rfl, ?_, (kV.setCell (by right; simp; omega) _).setCell (by right; simp; omega) _⟩
  exact ⟨b2, n, rfl, (rV.other hb2 _).other hb2 _⟩

set_option maxHeartbeats 2000000 in
set_option maxRecDepth 100000 in
theorem dk5x_c (s : Value) (n i k : Nat) (f : Nat → Bool) (t : Bool) (w : World) (hs : SpecSet w s n f t) (hn : n ≤ 6000) (hi : i ≤ 2500) (hk : k ≤ 2500) (hik : i < k) (hkn : n < k) :
    Calls Try.prog 13 #[s, .agg #[.int .i64 5, .int .i64 i, .int .i64 k]] w fun e w' => ∃ s', e = .returned (.tuple #[s', .bool true]) ∧ SpecSet w' s' (lst (rngF false n f i k) k) (rngF false n f i k) false ∧ Kept [] w w' := by
  obtain ⟨b, c, rfl⟩ := hs.shape
  have D0 := DoB.start w b c n t 5 i k
  have k0 : Kept [] w (((w.alloc (.cells #[.slice (some ⟨b, 0, none⟩) n c, .bool t] 28)).alloc (.cells #[.int .i64 5, .int .i64 i, .int .i64 k] 34)).alloc (.cells #[.slice none 0 0, .bool false] 28)) := (((Kept.refl _ _).alloc _).alloc _).alloc _
  have h3 : ¬ (6000 : Int) < (n : Int) := by omega
  have h1 : ¬ (i : Int) < 0 := by omega
  have h2 : ¬ (2500 : Int) < (i : Int) := by omega
  have hB1 : ¬ (k : Int) < 0 := by omega
  have hB2 : ¬ (2500 : Int) < (k : Int) := by omega
  have h4 : ¬ (k : Int) ≤ (i : Int) := by omega
  have h5 : (n : Int) < (k : Int) := by omega
  go_enter Try.func13, Try.ntmps13
  go_wp2_with fail
  refine (from_c n _ rfl 23 #[.agg #[.slice (some ⟨b, 0, none⟩) n c, .bool t]] #[] _ _ (by omega) callFunc_At (at_closure _ n f t _ (hs.kept k0) n)).mono ?_
  rintro e w1 ⟨b1, rfl, r1, n1, k1⟩
  have D1 := D0.kept k1
  have hs' := hs.kept (k0.trans0 k1)
  obtain ⟨a0, a1, a2, a3, a4, a5, a6, a7, a8⟩ := D1.cells
  obtain ⟨l1, l2, l3⟩ := D1.lt
  have hb1w : w.heap.size ≤ b1 := by simp at n1; omega
  have hb1z : b1 < w1.heap.size := r1.lt
  go_wp2_with fail
  have kz : Kept [] w1 (w1.alloc (.cells #[.slice (some ⟨b1, 0, none⟩) n n, .bool t] 28)) := (Kept.refl _ _).alloc _
  have D2 := D1.kept kz
  have hs2 := hs'.kept kz
  refine (from_c k _ (by omega) 31 #[] #[.pointer (some ⟨w.heap.size, 0, none⟩), .pointer (some ⟨w.heap.size + 1, 0, none⟩)] (rngF false n f i k) _ (by omega) (fun args w => by kernel_rfl) (fun j w' hj q => cl5_c w.heap.size b c n j i k f t w' (D2.kept q) (hs2.kept q) (by omega) (by omega) (by omega) hik)).mono ?_
  rintro e w2 ⟨b2, rfl, r2, n2, k2⟩
  have gz := k2.heap (by simp) (heap_alloc_new w1 (.cells #[.slice (some ⟨b1, 0, none⟩) n n, .bool t] 28))
  have D2 := D2.kept k2
  have hZ : w.heap.size + 1 + 1 < w1.heap.size := l3
  have hb2w : w.heap.size ≤ b2 := by have := k1.size; simp at n2 this; omega
  clear a0 a1 a2 a3 a4 a5 a6 a7 a8
  have hbz := r2.ne gz (by decide)
  have hb2 := r2.ne D2.2.2 (by decide)
  obtain ⟨a0, a1, a2, a3, a4, a5, a6, a7, a8⟩ := D2.cells
  obtain ⟨z0, z1, z2, z3, z4, z5⟩ := box2 gz (.slice (some ⟨b2, 0, none⟩) k k) (.bool true)
  have gW := setCell_heap_same (o := 1) (setCell_heap_same (o := 0) gz (.slice (some ⟨b2, 0, none⟩) k k)) (.bool true)
  have DW := (D2.other (o := 0) hZ (.slice (some ⟨b2, 0, none⟩) k k)).other (o := 1) hZ (.bool true)
  have rW := (r2.other (o := 0) hbz (.slice (some ⟨b2, 0, none⟩) k k)).other (o := 1) hbz (.bool true)
  have kW : Kept [] w ((w2.setCell ⟨w1.heap.size, 0, none⟩ (.slice (some ⟨b2, 0, none⟩) k k)).setCell ⟨w1.heap.size, 1, none⟩ (.bool true)) :=
    ((((k0.trans0 k1).trans0 kz).trans0 k2).setCell (by right; simp; omega) _).setCell (by right; simp; omega) _
  have gV := setCell_heap_same (o := 1) gW (.bool t)
  have DV := DW.other (o := 1) hZ (.bool t)
  have rV := rW.other (o := 1) hbz (.bool t)
  have kV := kW.setCell (p := ⟨w1.heap.size, 1, none⟩) (by right; simp; omega) (.bool t)
  have hD := DV.2.2
  obtain ⟨_, u1, _, u3, _, _⟩ := box2 gW (.bool true) (.bool true)
  have a1' : ((w2.setCell ⟨w1.heap.size, 0, none⟩ (.slice (some ⟨b2, 0, none⟩) k k)).setCell ⟨w1.heap.size, 1, none⟩ (.bool true)).cell? ⟨w.heap.size, 1, none⟩ = some (.bool t) := DW.cells.2.1
  obtain ⟨z8, z9, _, _, _, _⟩ := box2 gV (.bool true) (.bool true)
  go_upto_region 27 with fail
  clear a0 a1 a2 a3 a4 a5 a6 a7 a8 z0 z1 z2 z3 z4 z5 u1 u3 a1' z8 z9 gW DW rW kW hD
  generalize (((w2.setCell ⟨w1.heap.size, 0, none⟩ (.slice (some ⟨b2, 0, none⟩) k k)).setCell ⟨w1.heap.size, 1, none⟩ (.bool true)).setCell ⟨w1.heap.size, 1, none⟩ (.bool t)) = V at *
  have hD := DV.2.2
  obtain ⟨v0, v1, _, _, _, _⟩ := box2 gV (.bool true) (.bool true)
  obtain ⟨_, _, _, p3, p4, _, _, _, _⟩ := DV.cells
  go_wp2_with fail
  refine (least_c _ k (rngF false n f i k) t _ ⟨b2, k, rfl, rV⟩ (by omega)).mono ?_
  rintro e w9 ⟨s9, rfl, ⟨b9, c9, rfl, r9⟩, k9⟩
  obtain ⟨q9, hql⟩ : ∃ q9, lst (rngF false n f i k) k = q9 := ⟨_, rfl⟩
  rw [hql] at r9
  have hD9 := k9.heap (by simp) DV.2.2
  have hb9 := r9.ne hD9 (by decide)
  have kV := kV.trans0 k9
  have HQ := Lib.hid hql
  clear hql
  obtain ⟨y0, y1, y2, y3, y4, y5⟩ := box2 hD9 (.slice (some ⟨b9, 0, none⟩) q9 c9) (.bool false)
  rw [HQ.out]
  go_wp2_with fail
  refine bodyPost_ret (v := .tuple #[.agg #[.slice (some ⟨b9, 0, none⟩) q9 c9, .bool false], .bool true]) (by simp [results, Try.results13, go_sem, y4, y5]) rfl ⟨_, rfl, ?_, (kV.setCell (by right; simp; omega) _).setCell (by right; simp; omega) _⟩
  rw [HQ.out]
  exact ⟨b9, c9, rfl, (r9.other hb9 _).other hb9 _⟩

set_option maxHeartbeats 2000000 in
set_option maxRecDepth 100000 in
theorem dk5u_c (s : Value) (n i k : Nat) (f : Nat → Bool) (t : Bool) (w : World) (hs : SpecSet w s n f t) (hn : n ≤ 6000) (hi : i ≤ 2500) (hk : k ≤ 2500) (hik : k ≤ i) :
    Calls Try.prog 13 #[s, .agg #[.int .i64 5, .int .i64 i, .int .i64 k]] w fun e w' => e = .returned (.tuple #[s, .bool false]) ∧ Kept [] w w' := by
  obtain ⟨b, c, rfl⟩ := hs.shape
  have D0 := DoB.start w b c n t 5 i k
  have k0 : Kept [] w (((w.alloc (.cells #[.slice (some ⟨b, 0, none⟩) n c, .bool t] 28)).alloc (.cells #[.int .i64 5, .int .i64 i, .int .i64 k] 34)).alloc (.cells #[.slice none 0 0, .bool false] 28)) := (((Kept.refl _ _).alloc _).alloc _).alloc _
  have h3 : ¬ (6000 : Int) < (n : Int) := by omega
  have h1 : ¬ (i : Int) < 0 := by omega
  have h2 : ¬ (2500 : Int) < (i : Int) := by omega
  have hB1 : ¬ (k : Int) < 0 := by omega
  have hB2 : ¬ (2500 : Int) < (k : Int) := by omega
  have h4 : (k : Int) ≤ (i : Int) := by omega
  go_enter Try.func13, Try.ntmps13
  go_wp2_with fail
  refine (from_c n _ rfl 23 #[.agg #[.slice (some ⟨b, 0, none⟩) n c, .bool t]] #[] _ _ (by omega) callFunc_At (at_closure _ n f t _ (hs.kept k0) n)).mono ?_
  rintro e w1 ⟨b1, rfl, r1, n1, k1⟩
  have D1 := D0.kept k1
  have hs' := hs.kept (k0.trans0 k1)
  obtain ⟨a0, a1, a2, a3, a4, a5, a6, a7, a8⟩ := D1.cells
  obtain ⟨l1, l2, l3⟩ := D1.lt
  have hb1w : w.heap.size ≤ b1 := by simp at n1; omega
  have hb1z : b1 < w1.heap.size := r1.lt
  obtain ⟨y4, y5⟩ := box2A D1.2.2 (.slice (some ⟨b, 0, none⟩) n c) (.bool t) (.cells #[.slice (some ⟨b1, 0, none⟩) n n, .bool t] 28)
  have kV := k0.trans0 k1
  go_wp2_with fail
  refine bodyPost_ret (v := .tuple #[.agg #[.slice (some ⟨b, 0, none⟩) n c, .bool t], .bool false]) (by simp [results, Try.results13, go_sem, y4, y5]) rfl ⟨rfl, (((kV.setCell (by right; simp; omega) _).setCell (by right; simp; omega) _).alloc _)⟩


end Go.Proofs.Ytiaghdnhapiioaa

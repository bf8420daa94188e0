/-
  Words that came in: how they read, a copy of them by append, the reference's OfWords.
-/
import Derived.Deep.AppendSrc
import Derived.Test.YtfkgljohmgeocaaRow
import Derived.Test.YtfkgljohmgeocaaLeast
import Derived.Test.YtfkgljohmgeocaaPart
namespace Go.Proofs.Ytfkgljohmgeocaa
set_option linter.unusedSimpArgs false
set_option linter.unusedVariables false
open Go.RowKit


/-- A slice value reads as these words. -/
def U64At (w : World) (v : Value) (l : List Nat) : Prop :=
  (∃ ad cap, v = .slice ad 0 cap ∧ l = []) ∨ (∃ b off cap, v = .slice (some ⟨b, off, none⟩) l.length cap ∧ ∀ j, j < l.length → w.cell? ⟨b, off + j, none⟩ = some (.int .u64 (l.getD j 0 : Nat)))
theorem U64At.kept {w w' : World} {v : Value} {l : List Nat} (h : U64At w v l) (k : Kept [] w w') : U64At w' v l := by
  rcases h with h | ⟨b, off, cap, rfl, hc⟩
  · exact .inl h
  · exact .inr ⟨b, off, cap, rfl, fun j hj => k.cell (by simp) (hc j hj)⟩
theorem U64At.shape {w : World} {v : Value} {l : List Nat} (h : U64At w v l) : ∃ ad c, v = .slice ad l.length c := by
  rcases h with ⟨ad, cap, rfl, rfl⟩ | ⟨b, off, cap, rfl, _⟩ <;> exact ⟨_, _, rfl⟩
theorem words_self (l : List Nat) (hl : ∀ x ∈ l, x < 2 ^ 64) (n : Nat) (hn : l.length = (n + 63) / 64) (h : ∀ j, n ≤ j → wbit l j = false) : WordsOk l n (wbit l) := by
  refine ⟨hn, hl, fun j => ?_⟩
  by_cases hj : j < n
  · rw [decide_eq_true hj, Bool.true_and]
  · rw [decide_eq_false hj, h j (by omega), Bool.false_and]
theorem wbit_past (l : List Nat) (j : Nat) (h : 64 * l.length ≤ j) : wbit l j = false := by
  unfold wbit; rw [getD_out _ _ _ (by omega), Nat.zero_testBit]
theorem grown_kept {w w' : World} {g : Nat} (h : w.grownBy w' (some g)) (hg : g = w.heap.size - 1) (w0 : World) (k : Kept [] w0 w) (hg0 : w0.heap.size ≤ g) : Kept [] w0 w' :=
  k.grown h (fun q hq => by cases hq; right; exact hg0)

/-- A copy of words that came in, by append onto an empty slice of its own. -/
theorem wpList_appendU {w : World} {ops : Array Oper} {rest : List Oper} {o : Oper} {a : Act} {Q : Exit → Act → World → Prop} (hgd : o.guard = none) (s x : Operand)
    (ho : o.op = .call { callee := .builtin .append, args := #[s, x], argTypes := #[22, 22] })
    (g0 : Nat) (hg0 : w.heap[g0]? = some (.cells #[] 23 (0, 0))) (hs : a.eval s = .slice (some ⟨g0, 0, none⟩) 0 0) (v : Value) (l : List Nat) (hx : a.eval x = v) (hv : U64At w v l) (hl : l.length ≤ 1000)
    (h : ∀ (g cap : Nat) (w' : World), URow w' g l cap → g0 ≤ g → w.grownBy w' (some g0) → wpList Try.prog ops Q rest (a.put o.dst (.slice (some ⟨g, 0, none⟩) l.length cap)) w') : wpList Try.prog ops Q (o :: rest) a w := by
  obtain ⟨i0, hi0, hz0, hz1, hz2⟩ := info_parts Try.infoU
  have hglt := lt_of_heap hg0
  have hown : w.ownsRow g0 23 1 (.slice (some ⟨g0, 0, none⟩) 0 0) 0 [] := ⟨rfl, .inr ⟨g0, 0, #[], rfl, Nat.le_refl _, hg0, Nat.le_refl _, by unfold maxLen; omega, rfl, rfl⟩⟩
  have hfin : ∀ (v' : Value) (w' : World), w'.ownsRow g0 23 1 v' (0 + l.length) ([] ++ u64s l) → w.grownBy w' (some g0) → (v' = .slice none 0 0 ↔ Value.slice (some ⟨g0, 0, none⟩) 0 0 = .slice none 0 0 ∧ l.length = 0) → wpList Try.prog ops Q rest (a.put o.dst v') w' := by
    intro v' w' h2 h3 h4
    obtain ⟨_, hcase⟩ := h2
    rcases hcase with ⟨rfl, _⟩ | ⟨g, cap', cur, rfl, hb, hg, hle, _, hsz, htk⟩
    · have := h4.1 rfl
      exact absurd this.1 (by simp)
    · rw [Nat.zero_add] at htk hle ⊢
      refine h g cap' w' ⟨cur, hg, by simpa using hsz, hle, by simpa using htk⟩ hb h3
  rcases hv with ⟨ad, cp, rfl, rfl⟩ | ⟨b, off, cap, rfl, hc⟩
  · cases ad with
    | some ad => exact wpList_append_own _ hgd s x 22 ho g0 23 i0 (.int .u64 0) 1 8 Try.underlying22 hi0 hz0 hz1 hz2 rfl (by decide) _ 0 [] hs hown ad 0 cp [] hx rfl (fun j u hj => by simp at hj) (fun u hu => by simp at hu) (by unfold maxLen; omega) (by omega) (Nat.le_of_lt hglt) hfin
    | none =>
    have hr := run_append_room_src (P := Try.prog) w 22 22 o.type 23 i0 Try.underlying22 hi0 g0 0 0 0 (.slice none 0 cp) 0 [] (Src.ofNil w Try.underlying22 cp) (Nat.le_refl _) (fun j hj => by simp at hj) (fun j hj => by simp at hj)
    refine wpList_plain hgd fun K hK => ?_
    unfold Oper.wp
    simp [execOp, ho, resolve, invoke, builtin, hs, hx, hr, Result.andThen]
    refine hK _ _ (h g0 0 _ ⟨#[], ?_, rfl, Nat.le_refl _, rfl⟩ (Nat.le_refl _) ?_)
    · exact hg0
    · exact ⟨rfl, rfl, rfl, Nat.le_refl _, fun _ _ _ => rfl⟩
  · refine wpList_append_own _ hgd s x 22 ho g0 23 i0 (.int .u64 0) 1 8 Try.underlying22 hi0 hz0 hz1 hz2 rfl (by decide) _ 0 [] hs hown ⟨b, off, none⟩ l.length cap (u64s l) hx (by rw [length_u64s]; omega) ?_ ?_ ?_ ?_ (Nat.le_of_lt hglt) ?_
    · intro j u hj
      have hj' : j < l.length := by have := (List.getElem?_eq_some_iff.1 hj).1; rwa [length_u64s] at this
      have e : (⟨b, off, none⟩ : Addr).add j = ⟨b, off + j, none⟩ := by
        unfold Addr.add; by_cases h0 : j = 0
        · subst h0; rfl
        · rw [if_neg h0]
      rw [e, hc j hj', ← hj]
      simp [u64s, hj']
    · intro u hu
      obtain ⟨y, _, rfl⟩ := List.mem_map.1 hu
      rfl
    · unfold maxLen; omega
    · omega
    · exact hfin

theorem BRow.ne2 {w : World} {b c k d : Nat} {f : Nat → Bool} {cs : Array Value} {t : TypeId} {z : Nat × Nat} (h : BRow w b c k f) (hd : w.heap[d]? = some (.cells cs t z)) (ht : t ≠ 4) : b ≠ d := fun e => by
  obtain ⟨cur, h1, _⟩ := h
  subst e; rw [h1] at hd; cases hd; exact ht rfl
/-! ### one bit of a word, told by shifting -/
theorem wordBit_at (W c : Nat) (hW : W < 2 ^ 64) : bits .and .u64 ((W : Int) / 2 ^ c) 1 = ((down c W % 2 : Nat) : Int) := by
  rw [int_down]
  have := bits_and_nat (down c W) 1 (down_lt c W hW) (by decide)
  rw [Nat.and_one_is_mod] at this
  exact this
theorem wordBit_eq (W c : Nat) (hW : W < 2 ^ 64) : (bits .and .u64 ((W : Int) / 2 ^ c) 1 == 1) = W.testBit c := by
  rw [wordBit_at W c hW, Nat.testBit_eq_decide_div_mod_eq]
  unfold down
  rcases Nat.mod_two_eq_zero_or_one (W / 2 ^ c) with h | h <;> rw [h] <;> rfl

set_option maxHeartbeats 1000000 in
theorem ofWords1_c (R : Nat) (v : Value) (l : List Nat) (w : World) (hR : w.cell? ⟨R, 0, none⟩ = some v) (hv : U64At w v l) (hl : l.length ≤ 1000) (hlt : ∀ x ∈ l, x < 2 ^ 64) (i : Nat) (hi : i ≤ 64000) :
    Calls Try.prog 39 ((#[] : Array Value).push (.int .i64 i) ++ #[.pointer (some ⟨R, 0, none⟩)]) w fun e w' => e = .returned (.bool (wbit l i)) ∧ Kept [] w w' := by
  have e1 : (i : Int).tdiv 64 = ((i / 64 : Nat) : Int) := by rw [Int.tdiv_eq_ediv_of_nonneg (by omega)]; omega
  have e2 : (i : Int).tmod 64 = ((i % 64 : Nat) : Int) := by rw [Int.tmod_eq_emod_of_nonneg (by omega)]; omega
  have e1b : (i : Int) / 64 = ((i / 64 : Nat) : Int) := by omega
  have e2b : (i : Int) % 64 = ((i % 64 : Nat) : Int) := by omega
  by_cases h : i / 64 < l.length
  · rcases hv with ⟨ad0, cp0, rfl, rfl⟩ | ⟨b, off, cap, rfl, hc⟩
    · simp at h
    · have cX := hc (i / 64) h
      have hX := getD_lt hlt (i / 64)
      have hb := wordBit_eq (l.getD (i / 64) 0) (i % 64) hX
      have hw : wbit l i = (l.getD (i / 64) 0).testBit (i % 64) := rfl
      rw [hw, ← hb]
      have hs64 : i % 64 < 64 := by omega
      generalize l.getD (i / 64) 0 = X at *
      generalize i % 64 = s at *
      generalize i / 64 = q at *
      obtain ⟨m, hm⟩ : ∃ m, l.length = m := ⟨_, rfl⟩
      rw [hm] at h hR hl
      clear hc hb hw hm
      have h1 : (q : Int) < (m : Int) := by omega
      go_enter Try.func39, Try.ntmps39
      go_wp2_with fail
      go_ret
      exact ⟨by simp, Kept.refl _ _⟩
  · obtain ⟨ad, cap, rfl⟩ := hv.shape
    have hw : wbit l i = false := wbit_past l i (by omega)
    rw [hw]
    clear hw hv
    generalize i % 64 = s at *
    generalize i / 64 = q at *
    obtain ⟨m, hm⟩ : ∃ m, l.length = m := ⟨_, rfl⟩
    rw [hm] at h hR hl
    clear hm
    have h1 : ¬ (q : Int) < (m : Int) := by omega
    go_enter Try.func39, Try.ntmps39
    go_wp2_with fail
    go_ret
    exact ⟨by simp, Kept.refl _ _⟩
set_option maxHeartbeats 1000000 in
theorem ofWords_c (n : Nat) (v : Value) (l : List Nat) (w : World) (hv : U64At w v l) (hl : l.length ≤ 1000) (hlt : ∀ x ∈ l, x < 2 ^ 64) (hn : n ≤ 20000) :
    Calls Try.prog 17 #[.int .i64 n, v] w fun e w' => ∃ s, e = .returned s ∧ SpecSet w' s n (wbit l) true ∧ Kept [] w w' := by
  obtain ⟨ad, cp, rfl⟩ := hv.shape
  obtain ⟨m, hm⟩ : ∃ m, l.length = m := ⟨_, rfl⟩
  rw [hm] at hv hl ⊢
  have HM := Lib.hid hm; clear hm
  have k0 : Kept [] w ((w.alloc (.cells #[.slice ad m cp] 22)).alloc (.cells #[.slice none 0 0, .bool false] 31)) := ((Kept.refl _ _).alloc _).alloc _
  have hR : ((w.alloc (.cells #[.slice ad m cp] 22)).alloc (.cells #[.slice none 0 0, .bool false] 31)).heap[w.heap.size]? = some (.cells #[.slice ad m cp] 22 (0, 0)) := alloc_heap_old (heap_alloc_new w _) _
  have hD : ((w.alloc (.cells #[.slice ad m cp] 22)).alloc (.cells #[.slice none 0 0, .bool false] 31)).heap[w.heap.size + 1]? = some (.cells #[.slice none 0 0, .bool false] 31 (0, 0)) := by
    have := heap_alloc_new (w.alloc (.cells #[.slice ad m cp] 22)) (.cells #[.slice none 0 0, .bool false] 31)
    simpa using this
  have hv0 := hv.kept k0
  go_enter Try.func17, Try.ntmps17
  go_wp2_with fail
  refine (from_c n _ rfl 39 #[] #[.pointer (some ⟨w.heap.size, 0, none⟩)] (wbit l) _ hn (fun args w => by kernel_rfl) (fun i w' hi q => ofWords1_c w.heap.size (.slice ad m cp) l w' ((cell_of_heap (q.heap (by simp) hR)).trans rfl) (hv0.kept q) (by rw [HM.out]; exact hl) hlt i (by omega))).mono ?_
  rintro e w2 ⟨b2, rfl, r2, n2, k2⟩
  have hD2 := k2.heap (by simp) hD
  have hb2 := r2.ne2 hD2 (by decide)
  obtain ⟨y0, y1, y2, y3, y4, y5⟩ := box2 hD2 (.slice (some ⟨b2, 0, none⟩) n n) (.bool true)
  go_wp2_with fail
  refine bodyPost_ret (v := .agg #[.slice (some ⟨b2, 0, none⟩) n n, .bool true]) (by simp [results, Try.results17, go_sem, y4, y5]) rfl ⟨_, rfl, ⟨b2, n, rfl, (r2.other hb2 _).other hb2 _⟩, ((k0.trans0 k2).setCell (by right; simp) _).setCell (by right; simp) _⟩

open Go.ChangeShapes Go.WideShapes Go.ChangeAt Go.Joins in
theorem words_read {H : Type} {enc : TypeId × Value → H} {W : World} {base b0 : Nat} {held : Bool} {v : Value} {d : DataW H} {p : List MemPlace} (hv : Value.okWide Try.prog W .any b0 22 v)
    (h : DataW.Trod enc Try.prog W base (fun _ => true) held 22 v d p) : ∃ l : List Nat, U64At W v l ∧ (∀ x ∈ l, x < 2 ^ 64) ∧ l.length ≤ 9223372036854775807 := by
  obtain ⟨a0, len, cap, rfl⟩ := okWide_slice Try.underlying22 hv
  obtain ⟨fuel, hf⟩ := h
  rcases open_ints Try.underlying22 Try.underlying23 (by kernel_rfl) hf with ⟨hcs, hx⟩ | ⟨a, len', cap', zs, hcs, _, hl, hm, hz, hx, hcell, hwz⟩
  · simp [Value.cells] at hcs
    obtain ⟨rfl, rfl, rfl⟩ := hcs
    exact ⟨[], .inl ⟨none, 0, rfl, rfl⟩, by simp, by simp⟩
  · simp [Value.cells] at hcs
    obtain ⟨rfl, rfl, rfl⟩ := hcs
    simp only [if_true] at hz
    unfold maxLen at hm
    have hwz2 : ∀ z ∈ zs, 0 ≤ z ∧ z ≤ 18446744073709551615 := fun z hz' => by
      have := hwz z hz'
      simp only [Lit.wf, Bool.and_eq_true, decide_eq_true_eq] at this
      have h5 : IntKind.u64.min = 0 := rfl
      have h6 : IntKind.u64.max = 18446744073709551615 := rfl
      omega
    by_cases h0 : len = 0
    · subst h0; exact ⟨[], .inl ⟨some a, cap, rfl, rfl⟩, by simp, by simp⟩
    · obtain ⟨b, off, spot⟩ := a
      have hspot : spot = none := by simpa [Addr.add] using World.cell?_spot (hcell 0 (by omega))
      subst hspot
      have hlen : ((zs.take len).map Int.toNat).length = len := by rw [List.length_map, List.length_take]; omega
      refine ⟨(zs.take len).map Int.toNat, .inr ⟨b, off, cap, by rw [hlen], fun j hj => ?_⟩, fun x hx => ?_, by omega⟩
      · rw [hlen] at hj
        have := hcell j (by omega)
        have e : (⟨b, off, none⟩ : Addr).add j = ⟨b, off + j, none⟩ := by
          unfold Addr.add; by_cases h0 : j = 0
          · subst h0; rfl
          · rw [if_neg h0]
        rw [e] at this
        rw [this]
        have hjz : j < zs.length := by omega
        have h1 := hwz2 (zs[j]) (List.getElem_mem hjz)
        congr 2
        rw [getD_in zs 0 j hjz, getD_in ((zs.take len).map Int.toNat) 0 j (by rw [hlen]; exact hj), List.getElem_map, List.getElem_take]
        show zs[j] = ((zs[j].toNat : Nat) : Int)
        omega
      · obtain ⟨z, hz1, rfl⟩ := List.mem_map.1 hx
        have := hwz2 z (List.mem_of_mem_take hz1)
        omega

end Go.Proofs.Ytfkgljohmgeocaa

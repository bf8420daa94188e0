/-
  The contract of String: the numbers in braces, commas between; for sets of at most 20000 bits.
-/
import Derived.Lib.SlBytesConst
import Derived.Lib.BufferOld
import Derived.Test.YtafbdkcbgjpolaaDoorTxt
import Derived.Test.YtafbdkcbgjpolaaDoorNext
import Derived.Test.YtafbdkcbgjpolaaDoorOwn
import Derived.Test.YtafbdkcbgjpolaaDoorShelf
namespace Go.Proofs.YtafbdkcbgjpolaaDoor
set_option linter.unusedSimpArgs false
set_option linter.unusedVariables false
set_option maxRecDepth 100000
open Go.RowKit Go.Shelf

def pr (l : List Nat) (k : Nat) : List UInt8 := tx l k ++ (if 0 < k then [44] else [])
theorem pr_zero (l : List Nat) : pr l 0 = tx l 0 := by simp [pr]
theorem pr_succ (l : List Nat) (k : Nat) : pr l (k + 1) = tx l (k + 1) ++ [44] := by simp [pr]
theorem tx_pr (l : List Nat) (k : Nat) : tx l (k + 1) = pr l k ++ Lib.decDigits (l.getD k 0) := by simp [pr, tx]
theorem pr_le (l : List Nat) (h : ∀ x ∈ l, x < 1000000) (k : Nat) : (pr l k).length ≤ 2 + 21 * k := by
  have h1 := tx_le l h k
  have h2 : (if 0 < k then [44] else ([] : List UInt8)).length ≤ 1 := by split <;> simp
  simp only [pr, List.length_append]
  omega
theorem onL_prefix (ff : Nat → Bool) {a b : Nat} (h : a ≤ b) : ∃ r, onL b ff = onL a ff ++ r := by
  induction b with
  | zero => obtain rfl : a = 0 := by omega
            exact ⟨[], by simp⟩
  | succ b ih =>
    by_cases e : a = b + 1
    · subst e; exact ⟨[], by simp⟩
    · obtain ⟨r, hr⟩ := ih (by omega)
      cases hb : ff b with
      | true => exact ⟨r ++ [b], by rw [onL_yes hb, hr, List.append_assoc]⟩
      | false => exact ⟨r, by rw [onL_no hb, hr]⟩
theorem at_set {n q k : Nat} {f : Nat → Bool} (hq : q < n) (hf : f q = true) (hk : (onL q f).length = k) : k < (onL n f).length ∧ (onL n f).getD k 0 = q := by
  obtain ⟨r, hr⟩ := onL_prefix f (show q + 1 ≤ n by omega)
  rw [onL_yes hf, List.append_assoc] at hr
  have hlt : k < (onL n f).length := by rw [hr, List.length_append, hk]; simp
  refine ⟨hlt, ?_⟩
  rw [hr, List.getD_eq_getElem?_getD, List.getElem?_append_right (by omega), hk]
  simp
theorem below_grow (w : World) (k : Nat) (os : Array Obj) : Below w.heap.size w (Sort.grow (w.drewN k) os) :=
  ⟨rfl, rfl, rfl, by simp [Sort.grow, World.drewN], fun j hj => by
    show (w.heap ++ os)[j]? = w.heap[j]?
    rw [Array.getElem?_append_left hj]⟩
theorem cells_one : ([] : List Value) ++ [Value.int .u8 123] = Lib.byteCells [123] := rfl
/-- What the loop's head holds: the next bit and what is written; or none is left. -/
def Head (l : List Nat) (f : Nat → Bool) (n k : Nat) (i e : Value) (bs : List UInt8) : Prop :=
  (∃ q : Nat, i = .int .u64 (q : Nat) ∧ e = .bool true ∧ q < n ∧ f q = true ∧ (onL q f).length = k ∧ bs = pr l k) ∨ (i = .int .u64 0 ∧ e = .bool false ∧ k = l.length ∧ bs = tx l k)
theorem head_of {l : List Nat} {f : Nat → Bool} {n p q k : Nat} {e : Ending} (hl : onL n f = l) (hp : p ≤ n) (h1 : p ≤ q) (h2 : NoneIn n f p q)
    (h3 : (q < n ∧ f q = true ∧ e = .returned (.tuple #[.int .u64 q, .bool true])) ∨ (n ≤ q ∧ e = .returned (.tuple #[.int .u64 0, .bool false]))) (hk : (onL p f).length = k) :
    ∃ iv ev, e = .returned (.tuple #[iv, ev]) ∧ ((∃ q : Nat, iv = .int .u64 (q : Nat) ∧ ev = .bool true ∧ q < n ∧ f q = true ∧ (onL q f).length = k) ∨ (iv = .int .u64 0 ∧ ev = .bool false ∧ k = l.length)) := by
  rcases h3 with ⟨g1, g2, rfl⟩ | ⟨g1, rfl⟩
  · exact ⟨_, _, rfl, .inl ⟨q, rfl, rfl, g1, g2, by rw [onL_none p q n f h1 (by omega) h2, hk]⟩⟩
  · refine ⟨_, _, rfl, .inr ⟨rfl, rfl, ?_⟩⟩
    rw [← hl, onL_none p n n f hp (Nat.le_refl _) (fun j a1 a2 a3 => h2 j a1 (by omega) a3), hk]
set_option maxHeartbeats 4000000 in
set_option maxRecDepth 100000 in
theorem string_c (b g n : Nat) (f : Nat → Bool) (w : World) (h : BSet w b g n f) (hn : n ≤ 20000) (hT : TabW w) (hP : Lib.TabIs Tryd.prog w "internal/strconv.uint64pow10" .u64 Lib.pow10Tab) (l : List Nat) (hl : onL n f = l) :
    Calls Tryd.prog 34 #[.pointer (some ⟨b, 0, none⟩)] w fun e w' => e = .returned (.string ⟨(tx l l.length ++ [125]).toArray⟩) ∧ Kept [] w w' := by
  have hl6 : ∀ x ∈ l, x < 1000000 := fun x hx => by rw [← hl] at hx; have := onL_lt _ _ x hx; omega
  have hll : l.length ≤ n := by rw [← hl]; exact onL_le n f
  have HLE := Lib.hid (tx_le l hl6); have HPL := Lib.hid (pr_le l hl6); have HL := Lib.hid hl; have HH := Lib.hid h; have HT := Lib.hid hT; have HP := Lib.hid hP
  clear hl6 hl h hT hP
  have hcv : (convert 61 61 (.slice (some ⟨w.heap.size + 1, 0, none⟩) 1 1)).run Tryd.prog ((w.alloc (.cells #[.slice none 0 0, .int .i64 0, .int .i8 0] 75)).alloc (.cells #[.int .u8 123] 5)) = .ok (.slice (some ⟨w.heap.size + 1, 0, none⟩) 1 1) ((w.alloc (.cells #[.slice none 0 0, .int .i64 0, .int .i8 0] 75)).alloc (.cells #[.int .u8 123] 5 (1, 2))) := by
    have := Lib.run_convert_bytes_const (P := Tryd.prog) (w.alloc (.cells #[.slice none 0 0, .int .i64 0, .int .i8 0] 75)) 61 5 #[.int .u8 123] 1 1 Tryd.underlying61 Tryd.underlying5
    rw [World.size_alloc] at this
    exact this
  have hI0 := (Lib.fresh_isBuffer 75 5 w).alloc (.cells #[.int .u8 123] 5 (1, 2))
  have hB0 : Below w.heap.size w ((w.alloc (.cells #[.slice none 0 0, .int .i64 0, .int .i8 0] 75)).alloc (.cells #[.int .u8 123] 5 (1, 2))) := ((Below.refl _ w).alloc (Nat.le_refl _) _).alloc (by simp) _
  have hsrc0 : ∀ j v, ([.int .u8 123] : List Value)[j]? = some v → ((w.alloc (.cells #[.slice none 0 0, .int .i64 0, .int .i8 0] 75)).alloc (.cells #[.int .u8 123] 5 (1, 2))).cell? ((⟨w.heap.size + 1, 0, none⟩ : Addr).add j) = some v := by
    intro j v hj
    have hj0 : j = 0 := by
      have := (List.getElem?_eq_some_iff.1 hj).1
      simpa using this
    subst hj0
    have e : (⟨w.heap.size + 1, 0, none⟩ : Addr).add 0 = ⟨w.heap.size + 1, 0, none⟩ := rfl
    have hg := heap_alloc_new (w.alloc (.cells #[.slice none 0 0, .int .i64 0, .int .i8 0] 75)) (.cells #[.int .u8 123] 5 (1, 2))
    rw [World.size_alloc] at hg
    rw [e, cell_of_heap hg]
    exact hj
  go_enter Tryd.func34, Tryd.ntmps34
  go_wp2_with fail
  refine (Tryd.Buffer_Write_any w.heap.size w.heap.size [] [.int .u8 123] _ 1 1 _ hI0 (by simp; omega) (by simp) rfl (by simp) hsrc0 (by simp [Value.oneCell']) (by simp)).mono ?_
  rintro e W1 ⟨rfl, hI1, b1, _⟩
  rw [cells_one] at hI1
  have hB1 := hB0.trans b1
  clear hI0 hB0 hsrc0 b1
  have hK1 := Kept.of_below hB1
  go_wp2_with fail
  refine (nextSet_c b g n 0 f W1 (HH.out.kept hK1 (by simp) (by simp)) (by omega) (by omega) (HT.out.kept0 hK1)).mono ?_
  rintro e W2 ⟨q, hq1, hq2, hq3, k2⟩
  have hI2 := hI1.old k2.below
  have hB2 := hB1.trans (k2.below.mono hB1.size)
  obtain ⟨iv, ev, rfl, hd0⟩ := head_of (p := 0) (e := e) (HL.out) (Nat.zero_le _) hq1 hq2 hq3 rfl
  have hd1 : Head l f n 0 iv ev [123] := by
    rcases hd0 with ⟨q', h1, h2, h3, h4, h5⟩ | ⟨h1, h2, h3⟩
    · exact .inl ⟨q', h1, h2, h3, h4, h5, by rw [pr_zero, tx_zero]⟩
    · exact .inr ⟨h1, h2, h3, by rw [tx_zero]⟩
  have HD0 := Lib.hid hd1
  clear hd1
  clear hI1 hB1 hK1 hq1 hq2 hq3 k2 hd0
  go_wp2_with fail
  go_loopw [5, 6, 7] (fun c i ee wr => ∃ (k : Nat) (bs : List UInt8), k ≤ l.length ∧ c = .int .i64 k ∧ Head l f n k i ee bs ∧ Lib.IsBuffer 75 5 w.heap.size w.heap.size (Lib.byteCells bs) wr ∧ Below w.heap.size w wr) (fun c _ _ _ => l.length - (intOf c).toNat)
  case atStart => exact ⟨0, [123], Nat.zero_le _, rfl, HD0.out, hI2, hB2⟩
  case round =>
    clear HD0 hI2 hB2
    obtain ⟨k, bs, hkl, rfl, hd, hI, hB⟩ := hrel
    have hK := Kept.of_below hB
    have hk0 : (0 : Int) ≤ (k : Int) := by omega
    rcases hd with ⟨q, rfl, rfl, hqn, hfq, hqk, rfl⟩ | ⟨rfl, rfl, rfl, rfl⟩
    · obtain ⟨hkl2, hat⟩ := at_set hqn hfq hqk
      rw [HL.out] at hkl2 hat
      have hpl := HPL.out k
      have hdl := digits_le q (by omega)
      have htp := tx_pr l k
      rw [hat] at htp
      have hc : ¬ (262144 : Int) < (k : Int) + 1 := by omega
      have hq63 : (q : Int) < 9223372036854775808 := by omega
      have hq0 : (0 : Int) ≤ (q : Int) := by omega
      have HTP := Lib.hid htp; have HAT := Lib.hid hat; have HQK := Lib.hid hqk; have HFQ := Lib.hid hfq
      clear htp hat hqk hfq
      generalize pr l k = P at *
      go_wp2_with fail
      refine (Tryd.strconv_FormatInt_10 q (by omega) (by omega) _ (tabIs_kept HP.out hK)).mono ?_
      rintro e W3 ⟨rfl, kk, os, hW3⟩
      have hb3 : Below wr.heap.size wr W3 := hW3 ▸ below_grow wr kk os
      have hI3 := hI.old hb3
      have hB3 := hB.trans (hb3.mono hB.size)
      rw [Lib.itoa_nonneg]
      clear hI hB hW3 hK hb3
      go_wp2_with fail
      refine (Tryd.Buffer_WriteString_k w.heap.size w.heap.size _ ⟨(Lib.decDigits q).toArray⟩ _ hI3 hB3.size (Lib.byteCells_one _) (by rw [Lib.byteCells_length, Lib.size_eq]; simp; omega)).mono ?_
      rintro e W4 ⟨rfl, hI4, b4, _⟩
      rw [← Lib.byteCells_append, show ((⟨(Lib.decDigits q).toArray⟩ : ByteArray).data.toList) = Lib.decDigits q from rfl, ← HTP.out] at hI4
      have hB4 := hB3.trans b4
      have hK4 := Kept.of_below hB4
      clear hI3 hB3 b4
      go_wp2_with fail
      have hq1w : IntKind.u64.wrap ((q : Int) + 1) = (q : Int) + 1 := by rw [IntKind.wrap_u64]; omega
      refine (nextSet_c b g n (q + 1) f W4 (HH.out.kept hK4 (by simp) (by simp)) (by omega) (by omega) (HT.out.kept0 hK4)).mono ?_
      rintro e W5 ⟨q2, hq1, hq2, hq3, k5⟩
      have hI5 := hI4.old k5.below
      have hB5 := hB4.trans (k5.below.mono hB4.size)
      have hkk : (onL (q + 1) f).length = k + 1 := by rw [onL_yes HFQ.out, List.length_append, HQK.out]; rfl
      obtain ⟨iv2, ev2, rfl, hd2⟩ := head_of (p := q + 1) (e := e) HL.out (by omega) hq1 hq2 hq3 hkk
      have HKK := Lib.hid hkk
      clear hI4 hB4 hK4 hq1 hq2 hq3 k5 hkk
      have htl := HLE.out (k + 1)
      rcases hd2 with ⟨q3, rfl, rfl, g1, g2, g3⟩ | ⟨rfl, rfl, g3⟩
      · have G2 := Lib.hid g2; have G3 := Lib.hid g3; clear g2 g3
        go_wp2_with fail
        refine (Tryd.Buffer_WriteString_k w.heap.size w.heap.size _ ⟨#[44]⟩ _ hI5 hB5.size (Lib.byteCells_one _) (by rw [Lib.byteCells_length, Lib.size_eq]; simp; omega)).mono ?_
        rintro e W6 ⟨rfl, hI6, b6, _⟩
        rw [← Lib.byteCells_append, show ((⟨#[44]⟩ : ByteArray).data.toList) = [44] from rfl, ← pr_succ] at hI6
        have hB6 := hB5.trans b6
        have HI6 := Lib.hid hI6; clear hI6 hI5 hB5 b6
        go_wp2_with fail
        go_roundw
        case rel => exact ⟨k + 1, _, by omega, by go_num, .inl ⟨q3, rfl, rfl, g1, G2.out, G3.out, rfl⟩, HI6.out, hB6⟩
        case measure => simp [intOf] <;> omega
      · have G3 := Lib.hid g3; clear g3
        have HI5 := Lib.hid hI5; clear hI5
        go_wp2_with fail
        go_roundw
        case rel => exact ⟨k + 1, _, by omega, by go_num, .inr ⟨rfl, rfl, G3.out, rfl⟩, HI5.out, hB5⟩
        case measure => simp [intOf] <;> omega
    · have htl := HLE.out l.length
      obtain ⟨T, hT3⟩ : ∃ T, tx l l.length = T := ⟨_, rfl⟩
      rw [hT3] at hI htl
      have HT3 := Lib.hid hT3; clear hT3 hK
      go_wp2_with fail
      refine (Tryd.Buffer_WriteString_k w.heap.size w.heap.size _ ⟨#[125]⟩ _ hI hB.size (Lib.byteCells_one _) (by rw [Lib.byteCells_length, Lib.size_eq]; simp; omega)).mono ?_
      rintro e W4 ⟨rfl, hI4, b4, _⟩
      rw [← Lib.byteCells_append, show ((⟨#[125]⟩ : ByteArray).data.toList) = [125] from rfl] at hI4
      have hB4 := hB.trans b4
      clear hI hB b4
      go_wp2_with fail
      refine (Tryd.Buffer_String w.heap.size w.heap.size _ _ hI4).mono ?_
      rintro e W5 ⟨rfl, nd, rfl⟩
      go_wp2_with fail
      go_ret
      exact ⟨by rw [HT3.out]; rfl, (Kept.of_below hB4).drewN nd⟩

end Go.Proofs.YtafbdkcbgjpolaaDoor

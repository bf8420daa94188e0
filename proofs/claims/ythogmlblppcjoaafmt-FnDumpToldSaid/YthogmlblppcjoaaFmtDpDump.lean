/-
  BitSet.DumpAsBits: the words' signs, the last word first; impl.DumpAsBits.
-/
import Derived.Test.YthogmlblppcjoaaFmtDpFmt
import Derived.Test.YthogmlblppcjoaaFmtBuild
namespace Go.Proofs.YthogmlblppcjoaaFmt
set_option linter.unusedSimpArgs false
set_option linter.unusedVariables false
open Go.RowKit Go.Extern.Stop Go.Stop Go.Extern

/-- The text behind j rounds: the last j of the m words. -/
def dT (ws : List Nat) (m : Nat) : Nat → List UInt8
  | 0 => []
  | j + 1 => dT ws m j ++ (bn 64 (ws.getD (m - 1 - j) 0) ++ [46])
theorem dT_length (ws : List Nat) (m j : Nat) : (dT ws m j).length = 65 * j := by
  induction j with
  | zero => rfl
  | succ j ih => rw [dT, List.length_append, ih, List.length_append, bn_length]; simp; omega

/-- What F gives for a word. -/
def Tells (F : Interp) : Prop := ∀ x : Nat, x < 2 ^ 64 → FmtStop.textOf (F "fmt.Sprintf" (asked (x : Int)) 0) = ⟨(bn 64 x ++ [46]).toArray⟩

set_option maxHeartbeats 4000000 in
theorem dump_c (F : Interp) (HT : Tells F) (b g n : Nat) (f : Nat → Bool) (w : World) (hF : F.answers w.tape) (h : BSet w b g n f) (hn : n ≤ 20000) :
    Calls Tryf.prog 11 #[.pointer (some ⟨b, 0, none⟩)] w fun e w' => ∃ ws, WordsOk ws n f ∧ e = .returned (.string ⟨(dT ws ws.length ws.length).toArray⟩) ∧ Kept [] w w' := by
  obtain ⟨hne, cap, ws, hh, hr, hw⟩ := h
  obtain ⟨m, hm⟩ : ∃ m, ws.length = m := ⟨_, rfl⟩
  have hm2 : m ≤ 1000 := by have := hw.length; omega
  rw [hm] at hh
  have c1 := hh.c1
  have hnil : ∀ W, (binOp .eql 41 (.slice (some ⟨g, 0, none⟩) m cap) (.slice none 0 0)).run Tryf.prog W = .ok (.bool false) W := fun W => Lib.run_eql_slice_some_nil W _ _ _ Tryf.underlying41
  have hbl := hh.lt
  have hgl := hr.lt
  have C1 : ∀ w', Kept [] w w' → w'.cell? ⟨b, 1, none⟩ = some (.slice (some ⟨g, 0, none⟩) m cap) := fun w' k => k.cell (by simp) c1
  have CG : ∀ w' q, q < m → Kept [] w w' → w'.cell? ⟨g, q, none⟩ = some (.int .u64 (ws.getD q 0 : Nat)) := fun w' q hq k => k.cell (by simp) (hr.cell q (by omega))
  have hcap := hr.le
  rw [hm] at hcap
  have HM := Lib.hid hm; have HW := Lib.hid hw
  clear hm hw hh hr
  go_enter Tryf.func11, Tryf.ntmps11
  go_wp2_with fail
  refine (newBuf_c _).mono ?_
  rintro e w1 ⟨bb, bg, bcap, rfl, k1, hbb, hbg, hq⟩
  have c1' := C1 w1 k1
  go_wp2_with fail
  go_loopw [4] (fun i wr => ∃ k : Nat, k ≤ m ∧ i = .int .i64 ((k : Int) - 1) ∧ Kept [] w wr ∧ ∃ bg bcap, w.heap.size ≤ bg ∧ BufQ wr bb bg bcap (Lib.byteCells (dT ws m (m - k)))) (fun i _ => (intOf i + 1).toNat)
  case atStart => exact ⟨m, Nat.le_refl _, by go_num, k1, bg, bcap, hbg, by rw [Nat.sub_self]; exact hq⟩
  case round =>
    obtain ⟨k, hk, rfl, kr, bg2, bcap2, hbg2, hq2⟩ := hrel
    clear c1' hq
    rcases k with _ | q
    · have h1 : ¬ ((0 : Int) ≤ (0 : Int) - 1) := by omega
      go_wp2_with fail
      refine (bufString_c bb bg2 bcap2 _ _ hq2).mono ?_
      rintro e w8 ⟨rfl, k8, rfl⟩
      go_wp2_with fail
      go_ret
      exact ⟨ws, HW.out, by rw [HM.out]; rfl, kr.drewN _⟩
    · have e1 : ((q + 1 : Nat) : Int) - 1 = (q : Int) := by omega
      rw [e1]
      have hqm : (q : Int) < (m : Int) := by omega
      have c1r := C1 wr kr
      have cgr := CG wr q (by omega) kr
      obtain ⟨x, hx⟩ : ∃ x, ws.getD q 0 = x := ⟨_, rfl⟩
      have hx64 : x < 2 ^ 64 := by rw [← hx]; exact HW.out.word q
      rw [hx] at cgr
      have HX := Lib.hid hx; clear hx
      go_wp2_with fail
      refine (fprintf_c F x bb bg2 bcap2 wr.heap.size (dT ws m (m - (q + 1))) (bn 64 x ++ [46]) _ (by show F.answers wr.tape; rw [kr.tape]; exact hF) (hq2.kept ((Kept.refl [] wr).alloc (.cells #[.iface 51 (.int .u64 (x : Int))] 20)) (by simp) (by simp)) (heap_alloc_new wr _) (HT x hx64) (by rw [List.length_append, bn_length]; rfl) (by rw [dT_length]; omega)).mono ?_
      rintro e w2 ⟨v, rfl, k2, g', cap', hg', hq'⟩
      go_wp2_with fail
      go_roundw
      case rel =>
        refine ⟨q, by omega, by go_num, ((kr.alloc _).trans k2 ?_), g', cap', ?_, ?_⟩
        · intro i hi
          simp at hi
          rcases hi with rfl | rfl <;> right <;> assumption
        · rcases hg' with rfl | hg'
          · exact hbg2
          · exact Nat.le_trans (kr.alloc _).size hg'
        · have e2 : m - q = (m - (q + 1)) + 1 := by omega
          have e3 : m - 1 - (m - (q + 1)) = q := by omega
          rw [e2, dT, e3, HX.out]
          exact hq'
      case measure => simp [intOf] <;> omega

set_option maxHeartbeats 1000000 in
theorem implDump_c (F : Interp) (HT : Tells F) (L : Nat) (v : Value) (on : List Nat) (w : World) (hF : F.answers w.tape) (hv : IntsAt w v on) (hL : L ≤ 9000) (hlen : on.length ≤ 1000000) (hon : ∀ x ∈ on, x < 9000) :
    Calls Tryf.prog 6 #[.agg #[.int .i64 L, v]] w fun e w' => ∃ ws, WordsOk ws (lenOf L on) (memOf on) ∧ e = .returned (.string ⟨(dT ws ws.length ws.length).toArray⟩) ∧ Kept [] w w' := by
  have k0 : Kept [] w (w.alloc (.cells #[.int .i64 L, v] 24)) := (Kept.refl _ _).alloc _
  have hln := lenOf_le L on 9000 hL hon
  go_enter Tryf.func6, Tryf.ntmps6
  go_wp2_with fail
  refine (build_c L v on _ (hv.kept k0) (by omega) (fun x hx => by have := hon x hx; omega) hlen).mono ?_
  rintro e w1 ⟨b, g, rfl, hb, n1, n2, k1⟩
  go_wp2_with fail
  refine (dump_c F HT b g _ _ w1 (by rw [k1.tape]; exact hF) hb (by omega)).mono ?_
  rintro e w2 ⟨ws, hw, rfl, k2⟩
  go_wp2_with fail
  go_ret
  exact ⟨ws, hw, rfl, (k0.trans0 k1).trans0 k2⟩

end Go.Proofs.YthogmlblppcjoaaFmt

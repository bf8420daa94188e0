/-
  bytes.NewBufferString of the empty text; fmt.Fprintf of a word into the buffer.
-/
import Derived.Test.YthogmlblppcjoaaFmtDpWr
import Derived.Test.YthogmlblppcjoaaFmtDpTxt
import Derived.Laws.IdiomStrings
import Derived.Stop.CallBack
import Derived.Stop.IfaceNil
import Derived.WalkSpells
namespace Go.Proofs.YthogmlblppcjoaaFmt
set_option linter.unusedSimpArgs false
set_option linter.unusedVariables false
open Go.RowKit Go.Extern.Stop Go.Stop Go.Extern

theorem row_free (C : Array Value) (n : Nat) (h : C.size = n) : Free (C.size, C.size + 1) n := .inr (by simp only; omega)
theorem bytesRow_size (s : ByteArray) (cap : Nat) (h : s.size ≤ cap) : (bytesRow s cap).size = cap := by
  have : s.data.size = s.size := rfl
  simp [bytesRow]; omega

set_option maxHeartbeats 1000000 in
theorem newBuf_c (w : World) :
    Calls Tryf.prog 14 #[.string ⟨#[]⟩] w fun e w' => ∃ b g cap, e = .returned (.pointer (some ⟨b, 0, none⟩)) ∧ Kept [] w w' ∧ w.heap.size ≤ b ∧ w.heap.size ≤ g ∧ BufQ w' b g cap [] := by
  have hcv := fun w s => run_bytes_of_string (P := Tryf.prog) w 9 55 5 s Tryf.underlying9 Tryf.underlying55 Tryf.underlying5
  go_enter Tryf.func14, Tryf.ntmps14
  go_wp2_with fail
  go_ret
  obtain ⟨cp, hcp⟩ : ∃ cp, grownCap w 0 0 5 = cp := ⟨_, rfl⟩
  have h0 : (0 : Nat) ≤ cp := Nat.zero_le _
  have hm : cp ≤ maxLen := by rw [← hcp]; exact grownCap_le_maxLen w _ 0 5 (by unfold maxLen; omega)
  generalize hR : bytesRow { data := #[] } (grownCap w 0 0 5) = R
  have hRs : R.size = cp := by rw [← hR, hcp]; exact bytesRow_size _ _ (Nat.zero_le _)
  rw [hcp]
  refine ⟨w.heap.size + 1, w.heap.size, cp, rfl, (((Kept.refl _ _).alloc _).alloc _).drew, by omega, by omega, 0, R, (R.size, R.size + 1), ?_, ?_, .inr (Nat.le_refl _), hRs, Nat.zero_le _, by unfold maxLen at hm; exact hm, by omega, by simp⟩
  · have := heap_alloc_new (w.alloc (.cells R 5 (R.size, R.size + 1))) (.cells #[.slice (some ⟨w.heap.size, 0, none⟩) 0 cp, .int .i64 0, .int .i8 0] 59)
    have e : (w.alloc (.cells R 5 (R.size, R.size + 1))).heap.size = w.heap.size + 1 := by simp
    rw [e] at this
    exact this
  · exact alloc_heap_old (heap_alloc_new w _) _

theorem call20 (args : Array Value) (w : World) : (callFunc 20 args).run Tryf.prog w = ((FmtStop.sprintf #[9, 62] #[9] args).run Tryf.prog w).andThen fun v w' => .ok (.value v) w' :=
  run_callFunc_extern Tryf.func20 (by kernel_rfl) (by kernel_rfl) (by kernel_rfl) (by kernel_rfl) args w
theorem guardF (name : String) (w : World) : (FmtStop.guard name).run Tryf.prog w = .ok () w := by kernel_rfl
theorem fmtB : FmtStop.printed? ⟨#[37, 48, 54, 52, 98, 46]⟩ 1 = some [(0, 98, false)] := by kernel_rfl
theorem fmtBr (w : World) : (FmtDoors.printed ⟨#[37, 48, 54, 52, 98, 46]⟩ 1).run Tryf.prog w = .ok [(0, 98, false)] w := by kernel_rfl
theorem opB (name : String) (x : Int) (w : World) : (FmtStop.operand name false 98 false (.iface 51 (.int .u64 x))).run Tryf.prog w = .ok (shape51, Go.Extern.Stop.digits 8 (x % 2 ^ 64).toNat) w := by kernel_rfl
set_option maxHeartbeats 4000000 in
theorem fprintf_c (F : Interp) (x : Nat) (b g cap N : Nat) (T s : List UInt8) (w : World) (hF : F.answers w.tape) (h : BufQ w b g cap (Lib.byteCells T)) (hN : w.heap[N]? = some (.cells #[.iface 51 (.int .u64 (x : Int))] 20 (0, 0)))
    (hs : FmtStop.textOf (F "fmt.Sprintf" (asked (x : Int)) 0) = ⟨s.toArray⟩) (hsl : s.length = 65) (hT : T.length ≤ 100000) :
    Calls Tryf.prog 15 #[.iface 45 (.pointer (some ⟨b, 0, none⟩)), .string ⟨#[37, 48, 54, 52, 98, 46]⟩, .slice (some ⟨N, 0, none⟩) 1 1] w fun e w' => ∃ v, e = .returned v ∧ Kept [b, g] w w' ∧ ∃ g' cap', (g' = g ∨ w.heap.size ≤ g') ∧ BufQ w' b g' cap' (Lib.byteCells (T ++ s)) := by
  have hF' := answers_open hF
  have hcv := fun w s => run_bytes_of_string (P := Tryf.prog) w 9 55 5 s Tryf.underlying9 Tryf.underlying55 Tryf.underlying5
  have c20 := call20
  have gF := guardF
  have f1 := fmtB
  have f2 := fmtBr
  have oB := opB
  have hm : ∀ w : World, (method 198 45 (.pointer (some ⟨b, 0, none⟩)) "Write").run Tryf.prog w = .ok (42, .pointer (some ⟨b, 0, none⟩)) w := fun _ => by kernel_rfl
  have cN : w.cell? ⟨N, 0, none⟩ = some (.iface 51 (.int .u64 (x : Int))) := (cell_of_heap hN).trans rfl
  unfold asked at hs
  go_enter Tryf.func15, Tryf.ntmps15
  go_wp2_with fail
  have hlt := h.lt
  have hNl := lt_of_heap hN
  clear hN cN
  generalize hcap : grownCap w.drew 65 0 5 = cp
  have hcp : 65 ≤ cp := by rw [← hcap]; exact grownCap_ge w.drew _ 0 5
  have hsb : (⟨s.toArray⟩ : ByteArray).data.size = 65 := by simp [hsl]
  clear hcap hs
  generalize hR : bytesRow { data := s.toArray } cp = R
  have hRa : ∀ j (hj : j < 65), R[j]? = some (.int .u8 (s[j].toNat : Int)) := by
    intro j hj
    rw [← hR, bytesRow_at _ _ j (by rw [hsb]; exact hj)]
    rfl
  have kA : Kept [] w (w.alloc (.cells R 5 (R.size, R.size + 1))).drew.drew := (((Kept.refl _ _).alloc _).drew).drew
  have gA : (w.alloc (.cells R 5 (R.size, R.size + 1))).drew.drew.heap[w.heap.size]? = some (.cells R 5 (R.size, R.size + 1)) := heap_alloc_new w _
  clear hR
  refine (write_c b g cap 65 cp (Lib.byteCells T) (Lib.byteCells s) ⟨w.heap.size, 0, none⟩ _ (h.kept kA (by simp) (by simp)) ?_ (by rw [Lib.byteCells_length]; exact hsl) (by omega) (by simp only; omega) (by simp only; omega) ?_ (lt_of_heap gA) ?_ (by rw [Lib.byteCells_length]; omega)).mono ?_
  · intro v hv
    obtain ⟨c, _, rfl⟩ := List.mem_map.1 hv
    rfl
  · intro j v hj
    have hj65 : j < 65 := by
      have := (List.getElem?_eq_some_iff.1 hj).1
      rw [Lib.byteCells_length] at this; omega
    have e : (⟨w.heap.size, 0, none⟩ : Addr).add j = ⟨w.heap.size, j, none⟩ := by unfold Addr.add; simp <;> omega
    rw [e, cell_of_heap gA, hRa j hj65]
    rw [← hj, Lib.byteCells, List.getElem?_map, List.getElem?_eq_getElem (by omega)]
    rfl
  · intro v hv
    obtain ⟨c, _, rfl⟩ := List.mem_map.1 hv
    rfl
  rintro e w2 ⟨rfl, k2, g', cap', hg', hq'⟩
  have hsz : w.heap.size ≤ (w.alloc (.cells R 5 (R.size, R.size + 1))).drew.drew.heap.size := kA.size
  have k3 : Kept [b, g] w w2 := (kA.mono (S' := [b, g]) (by simp)).trans k2 (by simp)
  have hge : g' = g ∨ w.heap.size ≤ g' := hg'.imp_right (fun h => Nat.le_trans hsz h)
  have e2 : Lib.byteCells T ++ Lib.byteCells s = Lib.byteCells (T ++ s) := by simp [Lib.byteCells]
  rw [e2] at hq'
  clear hg' hsz
  go_wp2_with fail
  go_ret2
  exact ⟨_, rfl, k3, g', cap', hge, hq'⟩

end Go.Proofs.YthogmlblppcjoaaFmt

/-
  The contracts of Copy (between sets of one length) and CopyFull; for sets of at most 20000 bits.
-/
import Derived.Test.YtfdddnpmgaoddaaClone
import Derived.Test.YtfdddnpmgaoddaaLast
namespace Go.Proofs.Ytfdddnpmgaoddaa
set_option linter.unusedSimpArgs false
set_option linter.unusedVariables false
open Go.RowKit

/-- 'copy' into a row that is overwritten from its start, whatever it held. -/
theorem oper_copyAll {P : Program} {w : World} {o : Oper} {a : Act} {K : Act → World → Prop} {Q : Exit → Act → World → Prop} (d s : Operand) (t : TypeId)
    (ho : o.op = .call { callee := .builtin .copy, args := #[d, s], argTypes := #[t, t] }) (hu : P.underlying t = some (.slice 74)) (hsz : (P.info? 74).map (·.size) = some 1)
    (gd dLen dCap gs sLen sCap : Nat) (hd : a.eval d = .slice (some ⟨gd, 0, none⟩) dLen dCap) (hs : a.eval s = .slice (some ⟨gs, 0, none⟩) sLen sCap)
    (cur : Array Value) (hcur : w.heap[gd]? = some (.cells cur 74 (0, 0))) (cs : List Nat) (hn : cs.length = Nat.min sLen dLen) (hsrc : ∀ j, j < cs.length → w.cell? ⟨gs, 0 + j, none⟩ = some (.int .u64 (cs.getD j 0 : Nat)))
    (hfit : cs.length ≤ cur.size)
    (h : ∀ w', URow w' gd cs cur.size → Kept [gd] w w' → w'.heap.size = w.heap.size → K (a.put o.dst (goInt cs.length)) w') : Oper.wp P o a w K Q := by
  have hlen : (u64s cs).length = cs.length := length_u64s cs
  have hrun := run_copy_row (P := P) w t t o.type 74 gd 0 dLen dCap ⟨gs, 0, none⟩ sLen sCap cur 74 (u64s cs) hu hsz hcur (by rw [hlen]; exact hn) (by
    intro j v hj
    have hj' : j < cs.length := by have := (List.getElem?_eq_some_iff.1 hj).1; rwa [hlen] at this
    have e : (⟨gs, 0, none⟩ : Addr).add j = ⟨gs, 0 + j, none⟩ := by
      unfold Addr.add; by_cases h0 : j = 0
      · subst h0; rfl
      · rw [if_neg h0]
    rw [e, hsrc j hj', ← hj]
    simp [u64s, hj']) (by rw [hlen]; omega) (by
    intro v hv
    obtain ⟨x, _, rfl⟩ := List.mem_map.1 hv
    rfl)
  unfold Oper.wp
  simp [execOp, ho, resolve, invoke, builtin, hd, hs, hrun, Result.andThen]
  rw [hlen]
  refine h _ ⟨_, setRow_heap w gd cur _ _ _ hcur, ?_, hfit, ?_⟩ ⟨rfl, rfl, rfl, by simp [World.setRow], fun k hk hk2 => setRow_other w gd k _ (by simpa using hk2)⟩ (by simp [World.setRow])
  · simp only [List.size_toArray, List.length_append, List.length_take, List.length_drop, Array.length_toList, hlen]; omega
  · simp [hlen]

set_option maxHeartbeats 2000000 in
theorem copy_c (b g n b2 g2 : Nat) (f f2 : Nat → Bool) (w : World) (h : BSet w b g n f) (h2 : BSet w b2 g2 n f2) (hn : n ≤ 20000) (ha : b ≠ b2 ∧ b ≠ g2 ∧ g ≠ b2 ∧ g ≠ g2) :
    Calls Try.prog 57 #[.pointer (some ⟨b, 0, none⟩), .pointer (some ⟨b2, 0, none⟩)] w fun e w' => e = .returned (.int .u64 n) ∧ BSet w' b2 g2 n f ∧ Kept [b2, g2] w w' := by
  obtain ⟨ha1, ha2, ha3, ha4⟩ := ha
  obtain ⟨hne, cap, ws, hh, hr, hw⟩ := h
  obtain ⟨hne2, cap2, zs, hh2, hr2, hw2⟩ := h2
  have hm := hw.length
  have hm2 := hw2.length
  have hmm : zs.length = ws.length := by omega
  rw [hmm] at hh2
  have HMM := Lib.hid hmm; clear hmm hm hm2
  have c1 := hh.c1
  have c2 := hh2.c1
  have c0 := hh.c0
  have c20 := hh2.c0
  have hsrc : ∀ j, j < ws.length → w.cell? ⟨g, 0 + j, none⟩ = some (.int .u64 (ws.getD j 0 : Nat)) := fun j hj => by rw [Nat.zero_add]; exact hr.cell j hj
  have HS := Lib.hid hsrc; clear hsrc
  have hnil := fun (wx : World) (a : Addr) (n c : Nat) => Go.run_neq_slice_nil_any (P := Try.prog) wx 71 74 (some a) n c 0 0 Try.underlying71
  simp only [Option.isNone] at hnil
  go_enter Try.func57, Try.ntmps57
  go_wp2_with fail
  refine wp_region_held_drew (S := fun w' => w'.cell? ⟨b2, 1, none⟩ = some (.slice (some ⟨g2, 0, none⟩) ws.length cap2) ∧ w'.cell? ⟨b, 1, none⟩ = some (.slice (some ⟨g, 0, none⟩) ws.length cap)) (by kernel_rfl) ⟨c2, c1⟩ (fun hS => ?_)
  refine takeD 0 12 (v := ?_) rfl rfl (by kernel_rfl) (by kernel_rfl) (by kernel_rfl) (fun _ _ _ h => h) (Or.inl ⟨by kernel_rfl, ?_⟩) hS ?_
  rotate_left 1
  · (intro w' hw'; (try dsimp only at hw'); go_simp; try with_reducible rfl)
  simp only [List.setIfInBounds_toArray, List.set_cons_zero, List.set_cons_succ]
  refine takeD 1 13 (v := ?_) rfl rfl (by kernel_rfl) (by kernel_rfl) (by kernel_rfl) (fun _ _ _ h => h) (Or.inl ⟨by kernel_rfl, ?_⟩) hS ?_
  rotate_left 1
  · (intro w' hw'; (try dsimp only at hw'); go_simp; try with_reducible rfl)
  simp only [List.setIfInBounds_toArray, List.set_cons_zero, List.set_cons_succ]
  refine takeD 2 14 (v := ?_) rfl rfl (by kernel_rfl) (by kernel_rfl) (by kernel_rfl) (fun _ _ _ h => h) (Or.inl ⟨by kernel_rfl, ?_⟩) hS ?_
  rotate_left 1
  · (intro w' hw'; (try dsimp only at hw'); go_simp; try with_reducible rfl)
  simp only [List.setIfInBounds_toArray, List.set_cons_zero, List.set_cons_succ]
  refine takeD 3 15 (v := ?_) rfl rfl (by kernel_rfl) (by kernel_rfl) (by kernel_rfl) (fun _ _ _ h => h) (Or.inl ⟨by kernel_rfl, ?_⟩) hS ?_
  rotate_left 1
  · (intro w' hw'; (try dsimp only at hw'); go_simp; try with_reducible rfl)
  simp only [List.setIfInBounds_toArray, List.set_cons_zero, List.set_cons_succ]
  refine takeD 4 16 (v := ?_) rfl rfl (by kernel_rfl) (by kernel_rfl) (by kernel_rfl) (fun _ _ _ h => h) (Or.inl ⟨by kernel_rfl, ?_⟩) hS ?_
  rotate_left 1
  · (intro w' hw'; (try dsimp only at hw'); go_simp; try with_reducible rfl)
  simp only [List.setIfInBounds_toArray, List.set_cons_zero, List.set_cons_succ]
  refine takeD 5 17 (v := ?_) rfl rfl (by kernel_rfl) (by kernel_rfl) (by kernel_rfl) (fun _ _ _ h => h) (Or.inl ⟨by kernel_rfl, ?_⟩) hS ?_
  rotate_left 1
  · (intro w' hw'; (try dsimp only at hw'); go_simp; try with_reducible rfl)
  simp only [List.setIfInBounds_toArray, List.set_cons_zero, List.set_cons_succ]
  refine takeD 6 18 (v := ?_) rfl rfl (by kernel_rfl) (by kernel_rfl) (by kernel_rfl) (fun _ _ _ h => h) (Or.inl ⟨by kernel_rfl, ?_⟩) hS ?_
  rotate_left 1
  · (intro w' hw'; (try dsimp only at hw'); go_simp; try with_reducible rfl)
  simp only [List.setIfInBounds_toArray, List.set_cons_zero, List.set_cons_succ]
  refine takeD 7 19 (v := ?_) rfl rfl (by kernel_rfl) (by kernel_rfl) (by kernel_rfl) (fun _ _ _ h => h) (Or.inl ⟨by kernel_rfl, ?_⟩) hS ?_
  rotate_left 1
  · (intro w' hw'; (try dsimp only at hw'); go_simp; try with_reducible rfl)
  simp only [List.setIfInBounds_toArray, List.set_cons_zero, List.set_cons_succ]
  refine wpAnyH_ready (rs := [8]) (by kernel_rfl) (by simp) ?_
  refine AllReadyH.cons rfl (fun K hK => ?_) AllReadyH.nil
  refine wanted_plain rfl ?_
  refine oper_copyU (.tmp 15) (.tmp 19) 71 rfl Try.underlying71 Try.sizeU g2 0 ws.length cap2 g 0 ws.length cap rfl rfl zs cap2 hr2 ws (Nat.min_self _).symm HS.out (by rw [HMM.out]; omega) ?_
  intro w2 r2 k2 hsz
  have k2' : Kept [g2] w w2 := ((Kept.refl [g2] w).drew).trans k2 (fun i hi => .inl hi)
  refine hK.out _ _ ?_ (fun hS2 => ?_)
  · exact ⟨k2'.cell (by simpa using hne2) c2, k2'.cell (by simp; omega) c1⟩
  clear hK K
  (try simp only [Act.put, List.setIfInBounds_toArray, List.set_cons_zero, List.set_cons_succ])
  refine wpAnyH_done (by kernel_rfl) ?_ _
  rw [splice_all _ _ _ HMM.out rfl] at r2
  have hhx := hh2.kept k2' (by simpa using hne2)
  have d0 := k2'.cell (p := ⟨b, 0, none⟩) (by simp; omega) c0
  have d20 := k2'.cell (p := ⟨b2, 0, none⟩) (by simp; omega) c20
  clear hnil c0 c20 c1 c2 hS hS2
  go_wp2_with fail
  go_quiet (fail)
  have hhx : Hdr (w2.drewN nq) b2 n g2 ws.length cap2 := hhx
  have r2 : URow (w2.drewN nq) g2 ws cap2 := r2
  have k2' : Kept [g2] w (w2.drewN nq) := k2'.drewN nq
  generalize w2.drewN nq = W9 at *
  go_wp2_with fail
  refine (cleanLastWord_c b2 g2 n cap2 f ws _ hne2 hhx r2 hw.loose hn).mono ?_
  rintro e w9 ⟨rfl, h9, k9⟩
  go_wp2_with fail
  go_ret
  exact ⟨rfl, h9, (k2'.trans k9 (fun x hx => .inl hx)).mono (fun x hx => by simp at hx; left; simp [hx])⟩

set_option maxHeartbeats 2000000 in
theorem copyFull_c (b g n b2 g2 n2 : Nat) (f f2 : Nat → Bool) (w : World) (h : BSet w b g n f) (h2 : BSet w b2 g2 n2 f2) (hn : n ≤ 20000) (ha : b ≠ b2 ∧ b ≠ g2 ∧ g ≠ b2 ∧ g ≠ g2) :
    Calls Try.prog 55 #[.pointer (some ⟨b, 0, none⟩), .pointer (some ⟨b2, 0, none⟩)] w fun e w' => e = .returned (.tuple #[]) ∧ ∃ g', BSet w' b2 g' n f ∧ (g' = g2 ∨ w.heap.size ≤ g') ∧ Kept [b2, g2] w w' := by
  obtain ⟨ha1, ha2, ha3, ha4⟩ := ha
  obtain ⟨hne, cap, ws, hh, hr, hw⟩ := h
  obtain ⟨hne2, cap2, zs, hh2, hr2, hw2⟩ := h2
  have hlt := hr.lt
  have hltb := hh.lt
  have hlt2 := hh2.lt
  have hle2 := hr2.le
  obtain ⟨cur2, hg2, hcs2, _, _⟩ := hr2
  have hm := hw.length
  obtain ⟨m, hmm⟩ : ∃ m, ws.length = m := ⟨_, rfl⟩
  obtain ⟨m2, hmm2⟩ : ∃ m, zs.length = m := ⟨_, rfl⟩
  have hle := hr.le
  rw [hmm] at hh hm hle
  rw [hmm2] at hh2 hle2
  have HMM := Lib.hid hmm; clear hmm
  have hm1 : m ≤ 313 := by omega
  have hmn : m = 0 → n = 0 := by omega
  clear hm
  have c1 := hh.c1
  have c0 := hh.c0
  have c2 := hh2.c1
  have c20 := hh2.c0
  have f0 := hh2.free 0
  have f1 := hh2.free 1
  have hhn := hh.other (c := b2) (o := 0) ha1 (.int .u64 n)
  have hhn2 := hh2.setLen n
  have hrn := hr.other (b := b2) (o := 0) ha3 (.int .u64 n)
  have hgn2 := setCell_heap_other (b := b2) (o := 0) hg2 (by omega) (.int .u64 n)
  have kn := (Kept.refl [b2, g2] w).setCell (p := ⟨b2, 0, none⟩) (by left; simp) (.int .u64 n)
  have e1 := hhn.c1
  have e2 := hhn2.c1
  have e20 := hhn2.free 1
  have hnil := fun (wx : World) (a : Addr) (n c : Nat) => Go.run_neq_slice_nil_any (P := Try.prog) wx 71 74 (some a) n c 0 0 Try.underlying71
  simp only [Option.isNone] at hnil
  by_cases h0 : m = 0
  · subst h0
    have hn0 := Lib.hid (hmn rfl)
    clear hmn
    go_enter Try.func55, Try.ntmps55
    go_wp2_with fail
    go_end0
    refine ⟨rfl, g2, ⟨hne2, cap2, [], ?_, ?_, ?_⟩, .inl rfl, kn.setCell (by left; simp) _⟩
    · exact hhn2.setRow g2 0 cap2
    · exact ⟨cur2, setCell_heap_other hgn2 (by omega) _, hcs2, Nat.zero_le _, by simp [u64s]⟩
    · have : ws = [] := List.eq_nil_of_length_eq_zero HMM.out
      rw [this] at hw; exact hw
  · have hz : decide (m = 0) = false := by simpa using h0
    have hz1 : ¬ (m : Int) = 0 := by omega
    have hsz : (w.setCell ⟨b2, 0, none⟩ (.int .u64 n)).heap.size = w.heap.size := by simp [World.setCell]
    by_cases hcap : cap2 < m
    · have hc' : (cap2 : Int) < (m : Int) := by omega
      obtain ⟨i0, hi0, hz0, hzz1, hz2⟩ := info_parts Try.infoU
      go_enter Try.func55, Try.ntmps55
      go_wp2_with fail
      go_quiet (fail)
      have e1 : ((w.setCell ⟨b2, 0, none⟩ (.int .u64 n)).drewN nq).cell? ⟨b, 1, none⟩ = _ := e1
      have e2 : ((w.setCell ⟨b2, 0, none⟩ (.int .u64 n)).drewN nq).cell? ⟨b2, 1, none⟩ = _ := e2
      have e20 : ((w.setCell ⟨b2, 0, none⟩ (.int .u64 n)).drewN nq).frozen? ⟨b2, 1, none⟩ = _ := e20
      have hhn : Hdr ((w.setCell ⟨b2, 0, none⟩ (.int .u64 n)).drewN nq) b n g m cap := hhn
      have hhn2 : Hdr ((w.setCell ⟨b2, 0, none⟩ (.int .u64 n)).drewN nq) b2 n g2 m2 cap2 := hhn2
      have hrn : URow ((w.setCell ⟨b2, 0, none⟩ (.int .u64 n)).drewN nq) g ws cap := hrn
      have hgn2 : ((w.setCell ⟨b2, 0, none⟩ (.int .u64 n)).drewN nq).heap[g2]? = _ := hgn2
      have kn : Kept [b2, g2] w ((w.setCell ⟨b2, 0, none⟩ (.int .u64 n)).drewN nq) := kn.drewN nq
      have hsz : Hid (((w.setCell ⟨b2, 0, none⟩ (.int .u64 n)).drewN nq).heap.size = w.heap.size) := hsz
      generalize (w.setCell ⟨b2, 0, none⟩ (.int .u64 n)).drewN nq = W at *
      clear hnil c0 c1 c2 c20 f0 f1
      have hWl : b2 < W.heap.size ∧ b < W.heap.size ∧ g < W.heap.size := by have := hsz.out; omega
      obtain ⟨hWl1, hWl2, hWl3⟩ := hWl
      go_wp2_with (refine wpList_mk rfl (.tmp 48) (.tmp 48) 71 74 rfl i0 (.int .u64 0) 8 Try.underlying71 hi0 hz0 hzz1 hz2 rfl _ _ m m rfl rfl rfl rfl (Nat.le_refl _) (by omega) (by omega) ?_)
      have hWb : W.heap.size ≠ b2 := by have := hsz.out; omega
      have hhZ : Hdr ((W.setCell ⟨b2, 1, none⟩ (.slice (some ⟨W.heap.size, 0, none⟩) m m)).alloc (.cells (zrow (.int .u64 0) m) 74)) b2 n W.heap.size m m := (hhn2.setRow _ m m).alloc _
      have hhA := (hhn.other (c := b2) (o := 1) ha1 (.slice (some ⟨W.heap.size, 0, none⟩) m m)).alloc (.cells (zrow (.int .u64 0) m) 74)
      have rA := (hrn.other (b := b2) (o := 1) ha3 (.slice (some ⟨W.heap.size, 0, none⟩) m m)).alloc (.cells (zrow (.int .u64 0) m) 74)
      have hcur := heap_alloc_new (W.setCell ⟨b2, 1, none⟩ (.slice (some ⟨W.heap.size, 0, none⟩) m m)) (.cells (zrow (.int .u64 0) m) 74)
      rw [show (W.setCell ⟨b2, 1, none⟩ (.slice (some ⟨W.heap.size, 0, none⟩) m m)).heap.size = W.heap.size by simp [World.setCell]] at hcur
      have hcz : (zrow (.int .u64 0) m).size = m := by simp [zrow]
      have kZ := (kn.setCell (p := ⟨b2, 1, none⟩) (by left; simp) (.slice (some ⟨W.heap.size, 0, none⟩) m m)).alloc (.cells (zrow (.int .u64 0) m) 74)
      generalize (W.setCell ⟨b2, 1, none⟩ (.slice (some ⟨W.heap.size, 0, none⟩) m m)).alloc (.cells (zrow (.int .u64 0) m) 74) = W2 at *
      clear e1 e2 e20 hhn hhn2 hrn hgn2
      have q1 := hhA.c1
      have q2 := hhZ.c1
      have hsrc : ∀ j, j < ws.length → W2.cell? ⟨g, 0 + j, none⟩ = some (.int .u64 (ws.getD j 0 : Nat)) := fun j hj => by rw [Nat.zero_add]; exact rA.cell j hj
      have HS := Lib.hid hsrc; clear hsrc
      refine wp_region_held_drew (S := fun w' => w'.cell? ⟨b2, 1, none⟩ = some (.slice (some ⟨W.heap.size, 0, none⟩) m m) ∧ w'.cell? ⟨b, 1, none⟩ = some (.slice (some ⟨g, 0, none⟩) m cap)) (by kernel_rfl) ⟨q2, q1⟩ (fun hS => ?_)
      refine takeD 0 65 (v := ?_) rfl rfl (by kernel_rfl) (by kernel_rfl) (by kernel_rfl) (fun _ _ _ h => h) (Or.inl ⟨by kernel_rfl, ?_⟩) hS ?_
      rotate_left 1
      · (intro w' hw'; (try dsimp only at hw'); go_simp; try with_reducible rfl)
      simp only [List.setIfInBounds_toArray, List.set_cons_zero, List.set_cons_succ]
      refine takeD 1 66 (v := ?_) rfl rfl (by kernel_rfl) (by kernel_rfl) (by kernel_rfl) (fun _ _ _ h => h) (Or.inl ⟨by kernel_rfl, ?_⟩) hS ?_
      rotate_left 1
      · (intro w' hw'; (try dsimp only at hw'); go_simp; try with_reducible rfl)
      simp only [List.setIfInBounds_toArray, List.set_cons_zero, List.set_cons_succ]
      refine takeD 2 67 (v := ?_) rfl rfl (by kernel_rfl) (by kernel_rfl) (by kernel_rfl) (fun _ _ _ h => h) (Or.inl ⟨by kernel_rfl, ?_⟩) hS ?_
      rotate_left 1
      · (intro w' hw'; (try dsimp only at hw'); go_simp; try with_reducible rfl)
      simp only [List.setIfInBounds_toArray, List.set_cons_zero, List.set_cons_succ]
      refine takeD 3 68 (v := ?_) rfl rfl (by kernel_rfl) (by kernel_rfl) (by kernel_rfl) (fun _ _ _ h => h) (Or.inl ⟨by kernel_rfl, ?_⟩) hS ?_
      rotate_left 1
      · (intro w' hw'; (try dsimp only at hw'); go_simp; try with_reducible rfl)
      simp only [List.setIfInBounds_toArray, List.set_cons_zero, List.set_cons_succ]
      refine takeD 4 69 (v := ?_) rfl rfl (by kernel_rfl) (by kernel_rfl) (by kernel_rfl) (fun _ _ _ h => h) (Or.inl ⟨by kernel_rfl, ?_⟩) hS ?_
      rotate_left 1
      · (intro w' hw'; (try dsimp only at hw'); go_simp; try with_reducible rfl)
      simp only [List.setIfInBounds_toArray, List.set_cons_zero, List.set_cons_succ]
      refine takeD 5 70 (v := ?_) rfl rfl (by kernel_rfl) (by kernel_rfl) (by kernel_rfl) (fun _ _ _ h => h) (Or.inl ⟨by kernel_rfl, ?_⟩) hS ?_
      rotate_left 1
      · (intro w' hw'; (try dsimp only at hw'); go_simp; try with_reducible rfl)
      simp only [List.setIfInBounds_toArray, List.set_cons_zero, List.set_cons_succ]
      refine takeD 6 71 (v := ?_) rfl rfl (by kernel_rfl) (by kernel_rfl) (by kernel_rfl) (fun _ _ _ h => h) (Or.inl ⟨by kernel_rfl, ?_⟩) hS ?_
      rotate_left 1
      · (intro w' hw'; (try dsimp only at hw'); go_simp; try with_reducible rfl)
      simp only [List.setIfInBounds_toArray, List.set_cons_zero, List.set_cons_succ]
      refine takeD 7 72 (v := ?_) rfl rfl (by kernel_rfl) (by kernel_rfl) (by kernel_rfl) (fun _ _ _ h => h) (Or.inl ⟨by kernel_rfl, ?_⟩) hS ?_
      rotate_left 1
      · (intro w' hw'; (try dsimp only at hw'); go_simp; try with_reducible rfl)
      simp only [List.setIfInBounds_toArray, List.set_cons_zero, List.set_cons_succ]
      refine wpAnyH_ready (rs := [8]) (by kernel_rfl) (by simp) ?_
      refine AllReadyH.cons rfl (fun K hK => ?_) AllReadyH.nil
      refine wanted_plain rfl ?_
      refine oper_copyAll (.tmp 68) (.tmp 72) 71 rfl Try.underlying71 Try.sizeU W.heap.size m m g m cap rfl rfl _ hcur ws (by rw [HMM.out]; exact (Nat.min_self _).symm) HS.out (by rw [HMM.out, hcz]; omega) ?_
      intro w9 r9 k9 hsz9
      rw [hcz] at r9
      have k9' : Kept [W.heap.size] W2 w9 := ((Kept.refl [W.heap.size] W2).drew).trans k9 (fun i hi => .inl hi)
      refine hK.out _ _ ?_ (fun hS2 => ?_)
      · exact ⟨k9'.cell (by simp; have := hsz.out; omega) q2, k9'.cell (by simp; have := hsz.out; omega) q1⟩
      clear hK K
      (try simp only [Act.put, List.setIfInBounds_toArray, List.set_cons_zero, List.set_cons_succ])
      refine wpAnyH_done (by kernel_rfl) ?_ _
      have h9 := hhZ.kept k9' (by simp; have := hsz.out; omega)
      go_wp2_with fail
      go_end0
      refine ⟨rfl, W.heap.size, ⟨by have := hsz.out; omega, m, ws, by rw [HMM.out]; exact h9, r9, hw⟩, .inr (by have := hsz.out; omega), kZ.trans k9' (fun x hx => by have := hsz.out; simp at hx; right; omega)⟩
    · have hc' : ¬ (cap2 : Int) < (m : Int) := by omega
      have hc2 : ((m : Nat) : Int) ≤ (cap2 : Int) := by omega
      have hc3 : (0 : Int) ≤ (m : Int) := by omega
      go_enter Try.func55, Try.ntmps55
      go_wp2_with fail
      go_quiet (fail)
      have e1 : ((w.setCell ⟨b2, 0, none⟩ (.int .u64 n)).drewN nq).cell? ⟨b, 1, none⟩ = _ := e1
      have e2 : ((w.setCell ⟨b2, 0, none⟩ (.int .u64 n)).drewN nq).cell? ⟨b2, 1, none⟩ = _ := e2
      have e20 : ((w.setCell ⟨b2, 0, none⟩ (.int .u64 n)).drewN nq).frozen? ⟨b2, 1, none⟩ = _ := e20
      have hhn : Hdr ((w.setCell ⟨b2, 0, none⟩ (.int .u64 n)).drewN nq) b n g m cap := hhn
      have hhn2 : Hdr ((w.setCell ⟨b2, 0, none⟩ (.int .u64 n)).drewN nq) b2 n g2 m2 cap2 := hhn2
      have hrn : URow ((w.setCell ⟨b2, 0, none⟩ (.int .u64 n)).drewN nq) g ws cap := hrn
      have hgn2 : ((w.setCell ⟨b2, 0, none⟩ (.int .u64 n)).drewN nq).heap[g2]? = _ := hgn2
      have kn : Kept [b2, g2] w ((w.setCell ⟨b2, 0, none⟩ (.int .u64 n)).drewN nq) := kn.drewN nq
      have hsz : Hid (((w.setCell ⟨b2, 0, none⟩ (.int .u64 n)).drewN nq).heap.size = w.heap.size) := hsz
      generalize (w.setCell ⟨b2, 0, none⟩ (.int .u64 n)).drewN nq = W at *
      clear hnil c0 c1 c2 c20 f0 f1
      have hWl : b2 < W.heap.size ∧ b < W.heap.size ∧ g < W.heap.size := by have := hsz.out; omega
      obtain ⟨hWl1, hWl2, hWl3⟩ := hWl
      go_wp2_with fail
      have hhZ : Hdr (W.setCell ⟨b2, 1, none⟩ (.slice (some ⟨g2, 0, none⟩) m cap2)) b2 n g2 m cap2 := hhn2.setRow _ m cap2
      have hhA := hhn.other (c := b2) (o := 1) ha1 (.slice (some ⟨g2, 0, none⟩) m cap2)
      have rA := hrn.other (b := b2) (o := 1) ha3 (.slice (some ⟨g2, 0, none⟩) m cap2)
      have hcur := setCell_heap_other (b := b2) (o := 1) hgn2 (by omega) (.slice (some ⟨g2, 0, none⟩) m cap2)
      have hcz := hcs2
      have kZ := kn.setCell (p := ⟨b2, 1, none⟩) (by left; simp) (.slice (some ⟨g2, 0, none⟩) m cap2)
      go_region
      all_goals
        have hhZ : Hdr ((W.setCell ⟨b2, 1, none⟩ (.slice (some ⟨g2, 0, none⟩) m cap2)).drew) b2 n g2 m cap2 := hhZ
        have hhA : Hdr ((W.setCell ⟨b2, 1, none⟩ (.slice (some ⟨g2, 0, none⟩) m cap2)).drew) b n g m cap := hhA
        have rA : URow ((W.setCell ⟨b2, 1, none⟩ (.slice (some ⟨g2, 0, none⟩) m cap2)).drew) g ws cap := rA
        have hcur : ((W.setCell ⟨b2, 1, none⟩ (.slice (some ⟨g2, 0, none⟩) m cap2)).drew).heap[g2]? = _ := hcur
        have kZ : Kept [b2, g2] w ((W.setCell ⟨b2, 1, none⟩ (.slice (some ⟨g2, 0, none⟩) m cap2)).drew) := kZ.drew
        generalize (W.setCell ⟨b2, 1, none⟩ (.slice (some ⟨g2, 0, none⟩) m cap2)).drew = W2 at *
        go_wp2_with fail
        clear e1 e2 e20 hhn hhn2 hrn hgn2
        have q1 := hhA.c1
        have q2 := hhZ.c1
        have hsrc : ∀ j, j < ws.length → W2.cell? ⟨g, 0 + j, none⟩ = some (.int .u64 (ws.getD j 0 : Nat)) := fun j hj => by rw [Nat.zero_add]; exact rA.cell j hj
        have HS := Lib.hid hsrc; clear hsrc
        refine wp_region_held_drew (S := fun w' => w'.cell? ⟨b2, 1, none⟩ = some (.slice (some ⟨g2, 0, none⟩) m cap2) ∧ w'.cell? ⟨b, 1, none⟩ = some (.slice (some ⟨g, 0, none⟩) m cap)) (by kernel_rfl) ⟨q2, q1⟩ (fun hS => ?_)
        refine takeD 0 65 (v := ?_) rfl rfl (by kernel_rfl) (by kernel_rfl) (by kernel_rfl) (fun _ _ _ h => h) (Or.inl ⟨by kernel_rfl, ?_⟩) hS ?_
        rotate_left 1
        · (intro w' hw'; (try dsimp only at hw'); go_simp; try with_reducible rfl)
        simp only [List.setIfInBounds_toArray, List.set_cons_zero, List.set_cons_succ]
        refine takeD 1 66 (v := ?_) rfl rfl (by kernel_rfl) (by kernel_rfl) (by kernel_rfl) (fun _ _ _ h => h) (Or.inl ⟨by kernel_rfl, ?_⟩) hS ?_
        rotate_left 1
        · (intro w' hw'; (try dsimp only at hw'); go_simp; try with_reducible rfl)
        simp only [List.setIfInBounds_toArray, List.set_cons_zero, List.set_cons_succ]
        refine takeD 2 67 (v := ?_) rfl rfl (by kernel_rfl) (by kernel_rfl) (by kernel_rfl) (fun _ _ _ h => h) (Or.inl ⟨by kernel_rfl, ?_⟩) hS ?_
        rotate_left 1
        · (intro w' hw'; (try dsimp only at hw'); go_simp; try with_reducible rfl)
        simp only [List.setIfInBounds_toArray, List.set_cons_zero, List.set_cons_succ]
        refine takeD 3 68 (v := ?_) rfl rfl (by kernel_rfl) (by kernel_rfl) (by kernel_rfl) (fun _ _ _ h => h) (Or.inl ⟨by kernel_rfl, ?_⟩) hS ?_
        rotate_left 1
        · (intro w' hw'; (try dsimp only at hw'); go_simp; try with_reducible rfl)
        simp only [List.setIfInBounds_toArray, List.set_cons_zero, List.set_cons_succ]
        refine takeD 4 69 (v := ?_) rfl rfl (by kernel_rfl) (by kernel_rfl) (by kernel_rfl) (fun _ _ _ h => h) (Or.inl ⟨by kernel_rfl, ?_⟩) hS ?_
        rotate_left 1
        · (intro w' hw'; (try dsimp only at hw'); go_simp; try with_reducible rfl)
        simp only [List.setIfInBounds_toArray, List.set_cons_zero, List.set_cons_succ]
        refine takeD 5 70 (v := ?_) rfl rfl (by kernel_rfl) (by kernel_rfl) (by kernel_rfl) (fun _ _ _ h => h) (Or.inl ⟨by kernel_rfl, ?_⟩) hS ?_
        rotate_left 1
        · (intro w' hw'; (try dsimp only at hw'); go_simp; try with_reducible rfl)
        simp only [List.setIfInBounds_toArray, List.set_cons_zero, List.set_cons_succ]
        refine takeD 6 71 (v := ?_) rfl rfl (by kernel_rfl) (by kernel_rfl) (by kernel_rfl) (fun _ _ _ h => h) (Or.inl ⟨by kernel_rfl, ?_⟩) hS ?_
        rotate_left 1
        · (intro w' hw'; (try dsimp only at hw'); go_simp; try with_reducible rfl)
        simp only [List.setIfInBounds_toArray, List.set_cons_zero, List.set_cons_succ]
        refine takeD 7 72 (v := ?_) rfl rfl (by kernel_rfl) (by kernel_rfl) (by kernel_rfl) (fun _ _ _ h => h) (Or.inl ⟨by kernel_rfl, ?_⟩) hS ?_
        rotate_left 1
        · (intro w' hw'; (try dsimp only at hw'); go_simp; try with_reducible rfl)
        simp only [List.setIfInBounds_toArray, List.set_cons_zero, List.set_cons_succ]
        refine wpAnyH_ready (rs := [8]) (by kernel_rfl) (by simp) ?_
        refine AllReadyH.cons rfl (fun K hK => ?_) AllReadyH.nil
        refine wanted_plain rfl ?_
        refine oper_copyAll (.tmp 68) (.tmp 72) 71 rfl Try.underlying71 Try.sizeU g2 m cap2 g m cap rfl rfl _ hcur ws (by rw [HMM.out]; exact (Nat.min_self _).symm) HS.out (by rw [HMM.out, hcz]; omega) ?_
        intro w9 r9 k9 hsz9
        rw [hcz] at r9
        have k9' : Kept [g2] W2 w9 := ((Kept.refl [g2] W2).drew).trans k9 (fun i hi => .inl hi)
        refine hK.out _ _ ?_ (fun hS2 => ?_)
        · exact ⟨k9'.cell (by simp; omega) q2, k9'.cell (by simp; omega) q1⟩
        clear hK K
        (try simp only [Act.put, List.setIfInBounds_toArray, List.set_cons_zero, List.set_cons_succ])
        refine wpAnyH_done (by kernel_rfl) ?_ _
        have h9 := hhZ.kept k9' (by simp; omega)
        go_wp2_with fail
        go_end0
        refine ⟨rfl, g2, ⟨by omega, cap2, ws, by rw [HMM.out]; exact h9, r9, hw⟩, .inl rfl, kZ.trans k9' (fun x hx => by simp at hx; left; simp [hx])⟩
end Go.Proofs.Ytfdddnpmgaoddaa

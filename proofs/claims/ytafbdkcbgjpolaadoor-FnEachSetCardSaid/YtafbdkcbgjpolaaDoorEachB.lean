/-
  EachSet hands back its iterator: what it is called with, and that it stops or gives all; and impl.EachSet.
-/
import Derived.Test.YtafbdkcbgjpolaaDoorEach
import Derived.Test.YtafbdkcbgjpolaaDoorApp
import Derived.Test.YtafbdkcbgjpolaaDoorInI2
namespace Go.Proofs.YtafbdkcbgjpolaaDoor
set_option linter.unusedSimpArgs false
set_option linter.unusedVariables false
set_option maxRecDepth 100000
open Go.RowKit Go.Shelf

set_option maxHeartbeats 1000000 in
theorem eachSet_in (n : Nat) (p0 : Option Addr) (w : World) :
    CallsIn Fence.wide n Tryd.prog 33 #[.pointer p0] w fun e w' => e = .returned (.func (.func 39) #[] #[.pointer (some ⟨w.heap.size, 0, none⟩)]) ∧ w' = w.alloc (.cells #[.pointer p0] 50) := by
  refine callsIn_of_wp Tryd.func33 rfl trivial ?_ rfl
  simp only [Tryd.ntmps33, List.size_toArray, List.length_cons, List.length_nil, Nat.reduceAdd, Nat.reduceSub, Array.replicate_succ, Array.replicate_zero, List.push_toArray, List.append_toArray, List.nil_append, List.cons_append]
  gi_wp2_with fail
  go_ret
  exact ⟨rfl, rfl⟩
theorem each_stops (n : Nat) (hn : 1 ≤ n) (Bn b g N : Nat) (f : Nat → Bool) (hN : N ≤ 20000) (w : World) (hbn : Bn < w.heap.size) (hBn : w.cell? ⟨Bn, 0, none⟩ = some (.pointer (some ⟨b, 0, none⟩))) (hb : BSet w b g N f) (hT : TabW w) :
    SeqStopsK Fence.wide n Tryd.prog 39 #[.pointer (some ⟨Bn, 0, none⟩)] (fun x : Nat => #[Value.int .u64 (x : Nat)]) (Kq [0, b, g, Bn]) (fun ys => ys = onL N f) (fun pre => pre <+: onL N f) (onL N f).length w := fun l J Jx W hW _ _ hY h0 => by
  have hk : Kq [0, b, g, Bn] w W := fun k hk => hW.block k (by
    have h1 := hb.lt; have h2 := hT.pos
    simp at hk
    rcases hk with rfl | rfl | rfl | rfl <;> omega)
  have hK : Kept [] w W := Kept.of_below hW
  exact each1_in n hn l Bn b g N f hN J Jx hY W (hk.cell (p := ⟨Bn, 0, none⟩) (by simp) hBn) (hb.kept hK (by simp) (by simp)) (hT.kept0 hK) h0

end Go.Proofs.YtafbdkcbgjpolaaDoor

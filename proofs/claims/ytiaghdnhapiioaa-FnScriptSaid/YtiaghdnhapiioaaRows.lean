/-
  No cell of these rows narrows 'for every input' (looked for: loops, veiled, ifaces, maps, wideKeys, modest, calm, conditions, laid).
  DERIVED. THE GIVEN ROWS OF THIS SEAT. 7 by the template 'for every input the law returns true; each argument reads behind the call as it read before'; 0 by the template 'total and deterministic' (their statements: YtiaghdnhapiioaaTotals.lean).
  GIVEN WITH THE SEED: the statements are not yours to turn. If you find one false, say at which input.
  Laid BY PROGRAM, IN A SANDBOX (cutbox-rows.mjs): the forced cells as the released guide's own fill.sh prints them over the translation c7047a2e197a3aee… (all of the seat's roots in one cut). By AI agents, Wed Nov 11 2026. No macro, syntax, notation, axiom, sorry.
-/
import Derived.Test.YtiaghdnhapiioaaChecked
import GoSem.Claim
import GoSem.ClaimJoined
import GoSem.ClaimMapViews
import Derived.JoinedTies
import Derived.KernelRfl
namespace Go.Proofs.Ytiaghdnhapiioaa
/- THE CELL 'sum', in the pinned program and in every row, IS THE sha256 OF THE DUMP (.gsa) THAT YtiaghdnhapiioaaProg.lean LOADS. Nothing in Lean hashes anything: it is a label: what it is worth is what the hold of that sum in a sandbox is worth. -/
noncomputable def Try.pinned : Pinned := { name := "ytiaghdnhapiioaa", sum := "c7047a2e197a3aeea5ebc7ae592ff3fe067f178eba61f754b158f30c4d84133c", checked := Try.checked }
namespace Rows
def none {H : Type} : Left H := { results := [], args := [] }

/-- 'laws.FnSetRange': WHATEVER THE INPUT: true; the input reads as it did. -/
def fnSetRangeSpec : ChangeSpec := { name := "fnSetRange", fn := fun _ => fun
  | [d1, d2, d3] => { results := [.lit (.bool true)], args := [d1, d2, d3] }
  | _ => none }
def fnSetRangeRow : OpenClaim := { program := "ytiaghdnhapiioaa", sum := "c7047a2e197a3aeea5ebc7ae592ff3fe067f178eba61f754b158f30c4d84133c", func := "loop.example/pub-setsofbits/laws.FnSetRange", spec := "fnSetRange", unfollowed := true, recurses := true, apart := false }
def FnSetRangeSaid : Prop := fnSetRangeRow.holds Try.pinned (OpenSpec.ofChange fnSetRangeSpec)

/-- ITS FALSE NEIGHBOUR: 'it returns false'. Refute it at one input. -/
def fnSetRangeWrong : ChangeSpec := { name := "fnSetRange", fn := fun _ => fun
  | [d1, d2, d3] => { results := [.lit (.bool false)], args := [d1, d2, d3] }
  | _ => none }
def FnSetRangeWrongFalsely : Prop := fnSetRangeRow.holds Try.pinned (OpenSpec.ofChange fnSetRangeWrong)

/-- 'laws.FnFlipRange': WHATEVER THE INPUT: true; the input reads as it did. -/
def fnFlipRangeSpec : ChangeSpec := { name := "fnFlipRange", fn := fun _ => fun
  | [d1, d2, d3] => { results := [.lit (.bool true)], args := [d1, d2, d3] }
  | _ => none }
def fnFlipRangeRow : OpenClaim := { program := "ytiaghdnhapiioaa", sum := "c7047a2e197a3aeea5ebc7ae592ff3fe067f178eba61f754b158f30c4d84133c", func := "loop.example/pub-setsofbits/laws.FnFlipRange", spec := "fnFlipRange", unfollowed := true, recurses := true, apart := false }
def FnFlipRangeSaid : Prop := fnFlipRangeRow.holds Try.pinned (OpenSpec.ofChange fnFlipRangeSpec)

/-- ITS FALSE NEIGHBOUR: 'it returns false'. Refute it at one input. -/
def fnFlipRangeWrong : ChangeSpec := { name := "fnFlipRange", fn := fun _ => fun
  | [d1, d2, d3] => { results := [.lit (.bool false)], args := [d1, d2, d3] }
  | _ => none }
def FnFlipRangeWrongFalsely : Prop := fnFlipRangeRow.holds Try.pinned (OpenSpec.ofChange fnFlipRangeWrong)

/-- 'laws.FnDeMorgan': WHATEVER THE INPUT: true; the input reads as it did. -/
def fnDeMorganSpec : ChangeSpec := { name := "fnDeMorgan", fn := fun _ => fun
  | [d1, d2] => { results := [.lit (.bool true)], args := [d1, d2] }
  | _ => none }
def fnDeMorganRow : OpenClaim := { program := "ytiaghdnhapiioaa", sum := "c7047a2e197a3aeea5ebc7ae592ff3fe067f178eba61f754b158f30c4d84133c", func := "loop.example/pub-setsofbits/laws.FnDeMorgan", spec := "fnDeMorgan", unfollowed := true, recurses := true, apart := false }
def FnDeMorganSaid : Prop := fnDeMorganRow.holds Try.pinned (OpenSpec.ofChange fnDeMorganSpec)

/-- ITS FALSE NEIGHBOUR: 'it returns false'. Refute it at one input. -/
def fnDeMorganWrong : ChangeSpec := { name := "fnDeMorgan", fn := fun _ => fun
  | [d1, d2] => { results := [.lit (.bool false)], args := [d1, d2] }
  | _ => none }
def FnDeMorganWrongFalsely : Prop := fnDeMorganRow.holds Try.pinned (OpenSpec.ofChange fnDeMorganWrong)

/-- 'laws.FnShiftLeft': WHATEVER THE INPUT: true; the input reads as it did. -/
def fnShiftLeftSpec : ChangeSpec := { name := "fnShiftLeft", fn := fun _ => fun
  | [d1, d2] => { results := [.lit (.bool true)], args := [d1, d2] }
  | _ => none }
def fnShiftLeftRow : OpenClaim := { program := "ytiaghdnhapiioaa", sum := "c7047a2e197a3aeea5ebc7ae592ff3fe067f178eba61f754b158f30c4d84133c", func := "loop.example/pub-setsofbits/laws.FnShiftLeft", spec := "fnShiftLeft", unfollowed := true, recurses := true, apart := false }
def FnShiftLeftSaid : Prop := fnShiftLeftRow.holds Try.pinned (OpenSpec.ofChange fnShiftLeftSpec)

/-- ITS FALSE NEIGHBOUR: 'it returns false'. Refute it at one input. -/
def fnShiftLeftWrong : ChangeSpec := { name := "fnShiftLeft", fn := fun _ => fun
  | [d1, d2] => { results := [.lit (.bool false)], args := [d1, d2] }
  | _ => none }
def FnShiftLeftWrongFalsely : Prop := fnShiftLeftRow.holds Try.pinned (OpenSpec.ofChange fnShiftLeftWrong)

/-- 'laws.FnShiftTwice': WHATEVER THE INPUT: true; the input reads as it did. -/
def fnShiftTwiceSpec : ChangeSpec := { name := "fnShiftTwice", fn := fun _ => fun
  | [d1, d2, d3] => { results := [.lit (.bool true)], args := [d1, d2, d3] }
  | _ => none }
def fnShiftTwiceRow : OpenClaim := { program := "ytiaghdnhapiioaa", sum := "c7047a2e197a3aeea5ebc7ae592ff3fe067f178eba61f754b158f30c4d84133c", func := "loop.example/pub-setsofbits/laws.FnShiftTwice", spec := "fnShiftTwice", unfollowed := true, recurses := true, apart := false }
def FnShiftTwiceSaid : Prop := fnShiftTwiceRow.holds Try.pinned (OpenSpec.ofChange fnShiftTwiceSpec)

/-- ITS FALSE NEIGHBOUR: 'it returns false'. Refute it at one input. -/
def fnShiftTwiceWrong : ChangeSpec := { name := "fnShiftTwice", fn := fun _ => fun
  | [d1, d2, d3] => { results := [.lit (.bool false)], args := [d1, d2, d3] }
  | _ => none }
def FnShiftTwiceWrongFalsely : Prop := fnShiftTwiceRow.holds Try.pinned (OpenSpec.ofChange fnShiftTwiceWrong)

/-- 'laws.FnShiftBack': WHATEVER THE INPUT: true; the input reads as it did. -/
def fnShiftBackSpec : ChangeSpec := { name := "fnShiftBack", fn := fun _ => fun
  | [d1, d2] => { results := [.lit (.bool true)], args := [d1, d2] }
  | _ => none }
def fnShiftBackRow : OpenClaim := { program := "ytiaghdnhapiioaa", sum := "c7047a2e197a3aeea5ebc7ae592ff3fe067f178eba61f754b158f30c4d84133c", func := "loop.example/pub-setsofbits/laws.FnShiftBack", spec := "fnShiftBack", unfollowed := true, recurses := true, apart := false }
def FnShiftBackSaid : Prop := fnShiftBackRow.holds Try.pinned (OpenSpec.ofChange fnShiftBackSpec)

/-- ITS FALSE NEIGHBOUR: 'it returns false'. Refute it at one input. -/
def fnShiftBackWrong : ChangeSpec := { name := "fnShiftBack", fn := fun _ => fun
  | [d1, d2] => { results := [.lit (.bool false)], args := [d1, d2] }
  | _ => none }
def FnShiftBackWrongFalsely : Prop := fnShiftBackRow.holds Try.pinned (OpenSpec.ofChange fnShiftBackWrong)

/-- 'laws.FnScript': WHATEVER THE INPUT: true; the input reads as it did. -/
def fnScriptSpec : ChangeSpec := { name := "fnScript", fn := fun _ => fun
  | [d1, d2] => { results := [.lit (.bool true)], args := [d1, d2] }
  | _ => none }
def fnScriptRow : OpenClaim := { program := "ytiaghdnhapiioaa", sum := "c7047a2e197a3aeea5ebc7ae592ff3fe067f178eba61f754b158f30c4d84133c", func := "loop.example/pub-setsofbits/laws.FnScript", spec := "fnScript", unfollowed := true, recurses := true, apart := false }
def FnScriptSaid : Prop := fnScriptRow.holds Try.pinned (OpenSpec.ofChange fnScriptSpec)

/-- ITS FALSE NEIGHBOUR: 'it returns false'. Refute it at one input. -/
def fnScriptWrong : ChangeSpec := { name := "fnScript", fn := fun _ => fun
  | [d1, d2] => { results := [.lit (.bool false)], args := [d1, d2] }
  | _ => none }
def FnScriptWrongFalsely : Prop := fnScriptRow.holds Try.pinned (OpenSpec.ofChange fnScriptWrong)

/- THE SECOND FORM. 'bulk': how many values and letters a reading holds, each counted each time it is reached (what is shared counts as often as it is met; a slice's spare places count too). A statement '..UptoSaid' is the law's where the arguments, and the package variables that the reading takes, are together of bulk at most 1048576: NARROWER than '..Said'. Prove '..Said' where nothing that the law and all that it calls make is longer than what came in: it says more and counts as full. Else prove '..UptoSaid'. A law counts once. -/
mutual
def uptoBulk {H : Type} : DataW H → Nat
  | .lit (.string bytes) => bytes.length + 1
  | .lit _ => 1
  | .nil => 1
  | .ptr d => uptoBulk d + 1
  | .slice elems spare => uptoBulkAll elems + uptoBulkAll spare + 1
  | .agg parts => uptoBulkAll parts + 1
  | .iface _ d => uptoBulk d + 1
  | .map entries => uptoBulkEntries entries + 1
  | .held _ => 1
def uptoBulkAll {H : Type} : List (DataW H) → Nat
  | [] => 0
  | d :: r => uptoBulk d + uptoBulkAll r
def uptoBulkEntries {H : Type} : List (Lit × DataW H) → Nat
  | [] => 0
  | x :: r => uptoBulkEntry x + uptoBulkEntries r
def uptoBulkEntry {H : Type} : Lit × DataW H → Nat
  | (.string bytes, d) => bytes.length + uptoBulk d + 1
  | (_, d) => uptoBulk d + 1
 end
def uptoSmall : (H : Type) → List (DataW H) → Bool := fun _ ds => decide (uptoBulkAll ds ≤ 1048576)
def OpenSpec.upto (s : _root_.Go.ChangeSpec) : _root_.Go.OpenSpec := { _root_.Go.OpenSpec.ofChange s with cond := some uptoSmall }

/-- 'laws.FnSetRange', WHERE WHAT IT READS IS OF BULK AT MOST 1048576: true; the input reads as it did. -/
def fnSetRangeUptoRow : OpenClaim := { program := "ytiaghdnhapiioaa", sum := "c7047a2e197a3aeea5ebc7ae592ff3fe067f178eba61f754b158f30c4d84133c", func := "loop.example/pub-setsofbits/laws.FnSetRange", spec := "fnSetRange", unfollowed := true, recurses := true, apart := false, narrowed := true }
def FnSetRangeUptoSaid : Prop := fnSetRangeUptoRow.holds Try.pinned (OpenSpec.upto fnSetRangeSpec)

/-- 'laws.FnFlipRange', WHERE WHAT IT READS IS OF BULK AT MOST 1048576: true; the input reads as it did. -/
def fnFlipRangeUptoRow : OpenClaim := { program := "ytiaghdnhapiioaa", sum := "c7047a2e197a3aeea5ebc7ae592ff3fe067f178eba61f754b158f30c4d84133c", func := "loop.example/pub-setsofbits/laws.FnFlipRange", spec := "fnFlipRange", unfollowed := true, recurses := true, apart := false, narrowed := true }
def FnFlipRangeUptoSaid : Prop := fnFlipRangeUptoRow.holds Try.pinned (OpenSpec.upto fnFlipRangeSpec)

/-- 'laws.FnDeMorgan', WHERE WHAT IT READS IS OF BULK AT MOST 1048576: true; the input reads as it did. -/
def fnDeMorganUptoRow : OpenClaim := { program := "ytiaghdnhapiioaa", sum := "c7047a2e197a3aeea5ebc7ae592ff3fe067f178eba61f754b158f30c4d84133c", func := "loop.example/pub-setsofbits/laws.FnDeMorgan", spec := "fnDeMorgan", unfollowed := true, recurses := true, apart := false, narrowed := true }
def FnDeMorganUptoSaid : Prop := fnDeMorganUptoRow.holds Try.pinned (OpenSpec.upto fnDeMorganSpec)

/-- 'laws.FnShiftLeft', WHERE WHAT IT READS IS OF BULK AT MOST 1048576: true; the input reads as it did. -/
def fnShiftLeftUptoRow : OpenClaim := { program := "ytiaghdnhapiioaa", sum := "c7047a2e197a3aeea5ebc7ae592ff3fe067f178eba61f754b158f30c4d84133c", func := "loop.example/pub-setsofbits/laws.FnShiftLeft", spec := "fnShiftLeft", unfollowed := true, recurses := true, apart := false, narrowed := true }
def FnShiftLeftUptoSaid : Prop := fnShiftLeftUptoRow.holds Try.pinned (OpenSpec.upto fnShiftLeftSpec)

/-- 'laws.FnShiftTwice', WHERE WHAT IT READS IS OF BULK AT MOST 1048576: true; the input reads as it did. -/
def fnShiftTwiceUptoRow : OpenClaim := { program := "ytiaghdnhapiioaa", sum := "c7047a2e197a3aeea5ebc7ae592ff3fe067f178eba61f754b158f30c4d84133c", func := "loop.example/pub-setsofbits/laws.FnShiftTwice", spec := "fnShiftTwice", unfollowed := true, recurses := true, apart := false, narrowed := true }
def FnShiftTwiceUptoSaid : Prop := fnShiftTwiceUptoRow.holds Try.pinned (OpenSpec.upto fnShiftTwiceSpec)

/-- 'laws.FnShiftBack', WHERE WHAT IT READS IS OF BULK AT MOST 1048576: true; the input reads as it did. -/
def fnShiftBackUptoRow : OpenClaim := { program := "ytiaghdnhapiioaa", sum := "c7047a2e197a3aeea5ebc7ae592ff3fe067f178eba61f754b158f30c4d84133c", func := "loop.example/pub-setsofbits/laws.FnShiftBack", spec := "fnShiftBack", unfollowed := true, recurses := true, apart := false, narrowed := true }
def FnShiftBackUptoSaid : Prop := fnShiftBackUptoRow.holds Try.pinned (OpenSpec.upto fnShiftBackSpec)

/-- 'laws.FnScript', WHERE WHAT IT READS IS OF BULK AT MOST 1048576: true; the input reads as it did. -/
def fnScriptUptoRow : OpenClaim := { program := "ytiaghdnhapiioaa", sum := "c7047a2e197a3aeea5ebc7ae592ff3fe067f178eba61f754b158f30c4d84133c", func := "loop.example/pub-setsofbits/laws.FnScript", spec := "fnScript", unfollowed := true, recurses := true, apart := false, narrowed := true }
def FnScriptUptoSaid : Prop := fnScriptUptoRow.holds Try.pinned (OpenSpec.upto fnScriptSpec)

end Rows
end Go.Proofs.Ytiaghdnhapiioaa

/-
  No cell of these rows narrows 'for every input' (looked for: loops, veiled, ifaces, maps, wideKeys, modest, calm, conditions, laid).
  DERIVED. THE GIVEN ROWS OF THIS SEAT. 12 by the template 'for every input the law returns true; each argument reads behind the call as it read before'; 0 by the template 'total and deterministic' (their statements: YtbobddbndlckhaaTotals.lean).
  GIVEN WITH THE SEED: the statements are not yours to turn. If you find one false, say at which input.
  Laid BY PROGRAM, IN A SANDBOX (cutbox-rows.mjs): the forced cells as the released guide's own fill.sh prints them over the translation 42c73340d21c057c… (all of the seat's roots in one cut). By AI agents, Wed Nov 11 2026. No macro, syntax, notation, axiom, sorry.
-/
import Derived.Test.YtbobddbndlckhaaChecked
import GoSem.Claim
import GoSem.ClaimJoined
import GoSem.ClaimMapViews
import Derived.JoinedTies
import Derived.KernelRfl
namespace Go.Proofs.Ytbobddbndlckhaa
/- THE CELL 'sum', in the pinned program and in every row, IS THE sha256 OF THE DUMP (.gsa) THAT YtbobddbndlckhaaProg.lean LOADS. Nothing in Lean hashes anything: it is a label: what it is worth is what the hold of that sum in a sandbox is worth. -/
noncomputable def Try.pinned : Pinned := { name := "ytbobddbndlckhaa", sum := "42c73340d21c057c2a1038269b5fb9c14f0a121a7347e8ff75bc5ddd7e12d425", checked := Try.checked }
namespace Rows
def none {H : Type} : Left H := { results := [], args := [] }

/-- 'laws.FnInPlaceDifference': WHATEVER THE INPUT: true; the input reads as it did. -/
def fnInPlaceDifferenceSpec : ChangeSpec := { name := "fnInPlaceDifference", fn := fun _ => fun
  | [d1, d2] => { results := [.lit (.bool true)], args := [d1, d2] }
  | _ => none }
def fnInPlaceDifferenceRow : OpenClaim := { program := "ytbobddbndlckhaa", sum := "42c73340d21c057c2a1038269b5fb9c14f0a121a7347e8ff75bc5ddd7e12d425", func := "loop.example/pub-setsofbits/laws.FnInPlaceDifference", spec := "fnInPlaceDifference", unfollowed := true, recurses := true, apart := false }
def FnInPlaceDifferenceSaid : Prop := fnInPlaceDifferenceRow.holds Try.pinned (OpenSpec.ofChange fnInPlaceDifferenceSpec)

/-- ITS FALSE NEIGHBOUR: 'it returns false'. Refute it at one input. -/
def fnInPlaceDifferenceWrong : ChangeSpec := { name := "fnInPlaceDifference", fn := fun _ => fun
  | [d1, d2] => { results := [.lit (.bool false)], args := [d1, d2] }
  | _ => none }
def FnInPlaceDifferenceWrongFalsely : Prop := fnInPlaceDifferenceRow.holds Try.pinned (OpenSpec.ofChange fnInPlaceDifferenceWrong)

/-- 'laws.FnInPlaceSymmetricDifference': WHATEVER THE INPUT: true; the input reads as it did. -/
def fnInPlaceSymmetricDifferenceSpec : ChangeSpec := { name := "fnInPlaceSymmetricDifference", fn := fun _ => fun
  | [d1, d2] => { results := [.lit (.bool true)], args := [d1, d2] }
  | _ => none }
def fnInPlaceSymmetricDifferenceRow : OpenClaim := { program := "ytbobddbndlckhaa", sum := "42c73340d21c057c2a1038269b5fb9c14f0a121a7347e8ff75bc5ddd7e12d425", func := "loop.example/pub-setsofbits/laws.FnInPlaceSymmetricDifference", spec := "fnInPlaceSymmetricDifference", unfollowed := true, recurses := true, apart := false }
def FnInPlaceSymmetricDifferenceSaid : Prop := fnInPlaceSymmetricDifferenceRow.holds Try.pinned (OpenSpec.ofChange fnInPlaceSymmetricDifferenceSpec)

/-- ITS FALSE NEIGHBOUR: 'it returns false'. Refute it at one input. -/
def fnInPlaceSymmetricDifferenceWrong : ChangeSpec := { name := "fnInPlaceSymmetricDifference", fn := fun _ => fun
  | [d1, d2] => { results := [.lit (.bool false)], args := [d1, d2] }
  | _ => none }
def FnInPlaceSymmetricDifferenceWrongFalsely : Prop := fnInPlaceSymmetricDifferenceRow.holds Try.pinned (OpenSpec.ofChange fnInPlaceSymmetricDifferenceWrong)

/-- 'laws.FnInPlaceUnion': WHATEVER THE INPUT: true; the input reads as it did. -/
def fnInPlaceUnionSpec : ChangeSpec := { name := "fnInPlaceUnion", fn := fun _ => fun
  | [d1, d2] => { results := [.lit (.bool true)], args := [d1, d2] }
  | _ => none }
def fnInPlaceUnionRow : OpenClaim := { program := "ytbobddbndlckhaa", sum := "42c73340d21c057c2a1038269b5fb9c14f0a121a7347e8ff75bc5ddd7e12d425", func := "loop.example/pub-setsofbits/laws.FnInPlaceUnion", spec := "fnInPlaceUnion", unfollowed := true, recurses := true, apart := false }
def FnInPlaceUnionSaid : Prop := fnInPlaceUnionRow.holds Try.pinned (OpenSpec.ofChange fnInPlaceUnionSpec)

/-- ITS FALSE NEIGHBOUR: 'it returns false'. Refute it at one input. -/
def fnInPlaceUnionWrong : ChangeSpec := { name := "fnInPlaceUnion", fn := fun _ => fun
  | [d1, d2] => { results := [.lit (.bool false)], args := [d1, d2] }
  | _ => none }
def FnInPlaceUnionWrongFalsely : Prop := fnInPlaceUnionRow.holds Try.pinned (OpenSpec.ofChange fnInPlaceUnionWrong)

/-- 'laws.FnInPlaceIntersection': WHATEVER THE INPUT: true; the input reads as it did. -/
def fnInPlaceIntersectionSpec : ChangeSpec := { name := "fnInPlaceIntersection", fn := fun _ => fun
  | [d1, d2] => { results := [.lit (.bool true)], args := [d1, d2] }
  | _ => none }
def fnInPlaceIntersectionRow : OpenClaim := { program := "ytbobddbndlckhaa", sum := "42c73340d21c057c2a1038269b5fb9c14f0a121a7347e8ff75bc5ddd7e12d425", func := "loop.example/pub-setsofbits/laws.FnInPlaceIntersection", spec := "fnInPlaceIntersection", unfollowed := true, recurses := true, apart := false }
def FnInPlaceIntersectionSaid : Prop := fnInPlaceIntersectionRow.holds Try.pinned (OpenSpec.ofChange fnInPlaceIntersectionSpec)

/-- ITS FALSE NEIGHBOUR: 'it returns false'. Refute it at one input. -/
def fnInPlaceIntersectionWrong : ChangeSpec := { name := "fnInPlaceIntersection", fn := fun _ => fun
  | [d1, d2] => { results := [.lit (.bool false)], args := [d1, d2] }
  | _ => none }
def FnInPlaceIntersectionWrongFalsely : Prop := fnInPlaceIntersectionRow.holds Try.pinned (OpenSpec.ofChange fnInPlaceIntersectionWrong)

/-- 'laws.FnDifference': WHATEVER THE INPUT: true; the input reads as it did. -/
def fnDifferenceSpec : ChangeSpec := { name := "fnDifference", fn := fun _ => fun
  | [d1, d2] => { results := [.lit (.bool true)], args := [d1, d2] }
  | _ => none }
def fnDifferenceRow : OpenClaim := { program := "ytbobddbndlckhaa", sum := "42c73340d21c057c2a1038269b5fb9c14f0a121a7347e8ff75bc5ddd7e12d425", func := "loop.example/pub-setsofbits/laws.FnDifference", spec := "fnDifference", unfollowed := true, recurses := true, apart := false }
def FnDifferenceSaid : Prop := fnDifferenceRow.holds Try.pinned (OpenSpec.ofChange fnDifferenceSpec)

/-- ITS FALSE NEIGHBOUR: 'it returns false'. Refute it at one input. -/
def fnDifferenceWrong : ChangeSpec := { name := "fnDifference", fn := fun _ => fun
  | [d1, d2] => { results := [.lit (.bool false)], args := [d1, d2] }
  | _ => none }
def FnDifferenceWrongFalsely : Prop := fnDifferenceRow.holds Try.pinned (OpenSpec.ofChange fnDifferenceWrong)

/-- 'laws.FnSymmetricDifference': WHATEVER THE INPUT: true; the input reads as it did. -/
def fnSymmetricDifferenceSpec : ChangeSpec := { name := "fnSymmetricDifference", fn := fun _ => fun
  | [d1, d2] => { results := [.lit (.bool true)], args := [d1, d2] }
  | _ => none }
def fnSymmetricDifferenceRow : OpenClaim := { program := "ytbobddbndlckhaa", sum := "42c73340d21c057c2a1038269b5fb9c14f0a121a7347e8ff75bc5ddd7e12d425", func := "loop.example/pub-setsofbits/laws.FnSymmetricDifference", spec := "fnSymmetricDifference", unfollowed := true, recurses := true, apart := false }
def FnSymmetricDifferenceSaid : Prop := fnSymmetricDifferenceRow.holds Try.pinned (OpenSpec.ofChange fnSymmetricDifferenceSpec)

/-- ITS FALSE NEIGHBOUR: 'it returns false'. Refute it at one input. -/
def fnSymmetricDifferenceWrong : ChangeSpec := { name := "fnSymmetricDifference", fn := fun _ => fun
  | [d1, d2] => { results := [.lit (.bool false)], args := [d1, d2] }
  | _ => none }
def FnSymmetricDifferenceWrongFalsely : Prop := fnSymmetricDifferenceRow.holds Try.pinned (OpenSpec.ofChange fnSymmetricDifferenceWrong)

/-- 'laws.FnUnion': WHATEVER THE INPUT: true; the input reads as it did. -/
def fnUnionSpec : ChangeSpec := { name := "fnUnion", fn := fun _ => fun
  | [d1, d2] => { results := [.lit (.bool true)], args := [d1, d2] }
  | _ => none }
def fnUnionRow : OpenClaim := { program := "ytbobddbndlckhaa", sum := "42c73340d21c057c2a1038269b5fb9c14f0a121a7347e8ff75bc5ddd7e12d425", func := "loop.example/pub-setsofbits/laws.FnUnion", spec := "fnUnion", unfollowed := true, recurses := true, apart := false }
def FnUnionSaid : Prop := fnUnionRow.holds Try.pinned (OpenSpec.ofChange fnUnionSpec)

/-- ITS FALSE NEIGHBOUR: 'it returns false'. Refute it at one input. -/
def fnUnionWrong : ChangeSpec := { name := "fnUnion", fn := fun _ => fun
  | [d1, d2] => { results := [.lit (.bool false)], args := [d1, d2] }
  | _ => none }
def FnUnionWrongFalsely : Prop := fnUnionRow.holds Try.pinned (OpenSpec.ofChange fnUnionWrong)

/-- 'laws.FnIntersection': WHATEVER THE INPUT: true; the input reads as it did. -/
def fnIntersectionSpec : ChangeSpec := { name := "fnIntersection", fn := fun _ => fun
  | [d1, d2] => { results := [.lit (.bool true)], args := [d1, d2] }
  | _ => none }
def fnIntersectionRow : OpenClaim := { program := "ytbobddbndlckhaa", sum := "42c73340d21c057c2a1038269b5fb9c14f0a121a7347e8ff75bc5ddd7e12d425", func := "loop.example/pub-setsofbits/laws.FnIntersection", spec := "fnIntersection", unfollowed := true, recurses := true, apart := false }
def FnIntersectionSaid : Prop := fnIntersectionRow.holds Try.pinned (OpenSpec.ofChange fnIntersectionSpec)

/-- ITS FALSE NEIGHBOUR: 'it returns false'. Refute it at one input. -/
def fnIntersectionWrong : ChangeSpec := { name := "fnIntersection", fn := fun _ => fun
  | [d1, d2] => { results := [.lit (.bool false)], args := [d1, d2] }
  | _ => none }
def FnIntersectionWrongFalsely : Prop := fnIntersectionRow.holds Try.pinned (OpenSpec.ofChange fnIntersectionWrong)

/-- 'laws.FnComplement': WHATEVER THE INPUT: true; the input reads as it did. -/
def fnComplementSpec : ChangeSpec := { name := "fnComplement", fn := fun _ => fun
  | [d] => { results := [.lit (.bool true)], args := [d] }
  | _ => none }
def fnComplementRow : OpenClaim := { program := "ytbobddbndlckhaa", sum := "42c73340d21c057c2a1038269b5fb9c14f0a121a7347e8ff75bc5ddd7e12d425", func := "loop.example/pub-setsofbits/laws.FnComplement", spec := "fnComplement", unfollowed := true, recurses := true, apart := false }
def FnComplementSaid : Prop := fnComplementRow.holds Try.pinned (OpenSpec.ofChange fnComplementSpec)

/-- ITS FALSE NEIGHBOUR: 'it returns false'. Refute it at one input. -/
def fnComplementWrong : ChangeSpec := { name := "fnComplement", fn := fun _ => fun
  | [d] => { results := [.lit (.bool false)], args := [d] }
  | _ => none }
def FnComplementWrongFalsely : Prop := fnComplementRow.holds Try.pinned (OpenSpec.ofChange fnComplementWrong)

/-- 'laws.FnDeMorgan': WHATEVER THE INPUT: true; the input reads as it did. -/
def fnDeMorganSpec : ChangeSpec := { name := "fnDeMorgan", fn := fun _ => fun
  | [d1, d2] => { results := [.lit (.bool true)], args := [d1, d2] }
  | _ => none }
def fnDeMorganRow : OpenClaim := { program := "ytbobddbndlckhaa", sum := "42c73340d21c057c2a1038269b5fb9c14f0a121a7347e8ff75bc5ddd7e12d425", func := "loop.example/pub-setsofbits/laws.FnDeMorgan", spec := "fnDeMorgan", unfollowed := true, recurses := true, apart := false }
def FnDeMorganSaid : Prop := fnDeMorganRow.holds Try.pinned (OpenSpec.ofChange fnDeMorganSpec)

/-- ITS FALSE NEIGHBOUR: 'it returns false'. Refute it at one input. -/
def fnDeMorganWrong : ChangeSpec := { name := "fnDeMorgan", fn := fun _ => fun
  | [d1, d2] => { results := [.lit (.bool false)], args := [d1, d2] }
  | _ => none }
def FnDeMorganWrongFalsely : Prop := fnDeMorganRow.holds Try.pinned (OpenSpec.ofChange fnDeMorganWrong)

/-- 'laws.FnFlipRange': WHATEVER THE INPUT: true; the input reads as it did. -/
def fnFlipRangeSpec : ChangeSpec := { name := "fnFlipRange", fn := fun _ => fun
  | [d1, d2, d3] => { results := [.lit (.bool true)], args := [d1, d2, d3] }
  | _ => none }
def fnFlipRangeRow : OpenClaim := { program := "ytbobddbndlckhaa", sum := "42c73340d21c057c2a1038269b5fb9c14f0a121a7347e8ff75bc5ddd7e12d425", func := "loop.example/pub-setsofbits/laws.FnFlipRange", spec := "fnFlipRange", unfollowed := true, recurses := true, apart := false }
def FnFlipRangeSaid : Prop := fnFlipRangeRow.holds Try.pinned (OpenSpec.ofChange fnFlipRangeSpec)

/-- ITS FALSE NEIGHBOUR: 'it returns false'. Refute it at one input. -/
def fnFlipRangeWrong : ChangeSpec := { name := "fnFlipRange", fn := fun _ => fun
  | [d1, d2, d3] => { results := [.lit (.bool false)], args := [d1, d2, d3] }
  | _ => none }
def FnFlipRangeWrongFalsely : Prop := fnFlipRangeRow.holds Try.pinned (OpenSpec.ofChange fnFlipRangeWrong)

/-- 'laws.FnInsertDelete': WHATEVER THE INPUT: true; the input reads as it did. -/
def fnInsertDeleteSpec : ChangeSpec := { name := "fnInsertDelete", fn := fun _ => fun
  | [d1, d2] => { results := [.lit (.bool true)], args := [d1, d2] }
  | _ => none }
def fnInsertDeleteRow : OpenClaim := { program := "ytbobddbndlckhaa", sum := "42c73340d21c057c2a1038269b5fb9c14f0a121a7347e8ff75bc5ddd7e12d425", func := "loop.example/pub-setsofbits/laws.FnInsertDelete", spec := "fnInsertDelete", apart := false }
def FnInsertDeleteSaid : Prop := fnInsertDeleteRow.holds Try.pinned (OpenSpec.ofChange fnInsertDeleteSpec)

/-- ITS FALSE NEIGHBOUR: 'it returns false'. Refute it at one input. -/
def fnInsertDeleteWrong : ChangeSpec := { name := "fnInsertDelete", fn := fun _ => fun
  | [d1, d2] => { results := [.lit (.bool false)], args := [d1, d2] }
  | _ => none }
def FnInsertDeleteWrongFalsely : Prop := fnInsertDeleteRow.holds Try.pinned (OpenSpec.ofChange fnInsertDeleteWrong)

/- THE SECOND FORM. 'bulk': how many values and letters a reading holds, each counted each time it is reached (what is shared counts as often as it is met; a slice's spare places count too). A statement '..UptoSaid' is the law's where the arguments, and the package variables that the reading takes, are together of bulk at most 1048576: NARROWER than '..Said'. Prove '..Said' where nothing that the law and all that it calls make is longer than what came in: it says more and counts as full. Else prove '..UptoSaid'. A law counts once. -/
mutual
def uptoBulk {H : Type} : DataW H → Nat
  | .lit (.string bytes) => bytes.length + 1
  | .lit _ => 1
  | .nil => 1
  | .ptr d => uptoBulk d + 1
  | .slice elems spare => uptoBulkAll elems + uptoBulkAll spare + 1
  | .agg parts => uptoBulkAll parts + 1
  | .iface _ d => uptoBulk d + 1
  | .map entries => uptoBulkEntries entries + 1
  | .held _ => 1
def uptoBulkAll {H : Type} : List (DataW H) → Nat
  | [] => 0
  | d :: r => uptoBulk d + uptoBulkAll r
def uptoBulkEntries {H : Type} : List (Lit × DataW H) → Nat
  | [] => 0
  | x :: r => uptoBulkEntry x + uptoBulkEntries r
def uptoBulkEntry {H : Type} : Lit × DataW H → Nat
  | (.string bytes, d) => bytes.length + uptoBulk d + 1
  | (_, d) => uptoBulk d + 1
 end
def uptoSmall : (H : Type) → List (DataW H) → Bool := fun _ ds => decide (uptoBulkAll ds ≤ 1048576)
def OpenSpec.upto (s : _root_.Go.ChangeSpec) : _root_.Go.OpenSpec := { _root_.Go.OpenSpec.ofChange s with cond := some uptoSmall }

/-- 'laws.FnInPlaceDifference', WHERE WHAT IT READS IS OF BULK AT MOST 1048576: true; the input reads as it did. -/
def fnInPlaceDifferenceUptoRow : OpenClaim := { program := "ytbobddbndlckhaa", sum := "42c73340d21c057c2a1038269b5fb9c14f0a121a7347e8ff75bc5ddd7e12d425", func := "loop.example/pub-setsofbits/laws.FnInPlaceDifference", spec := "fnInPlaceDifference", unfollowed := true, recurses := true, apart := false, narrowed := true }
def FnInPlaceDifferenceUptoSaid : Prop := fnInPlaceDifferenceUptoRow.holds Try.pinned (OpenSpec.upto fnInPlaceDifferenceSpec)

/-- 'laws.FnInPlaceSymmetricDifference', WHERE WHAT IT READS IS OF BULK AT MOST 1048576: true; the input reads as it did. -/
def fnInPlaceSymmetricDifferenceUptoRow : OpenClaim := { program := "ytbobddbndlckhaa", sum := "42c73340d21c057c2a1038269b5fb9c14f0a121a7347e8ff75bc5ddd7e12d425", func := "loop.example/pub-setsofbits/laws.FnInPlaceSymmetricDifference", spec := "fnInPlaceSymmetricDifference", unfollowed := true, recurses := true, apart := false, narrowed := true }
def FnInPlaceSymmetricDifferenceUptoSaid : Prop := fnInPlaceSymmetricDifferenceUptoRow.holds Try.pinned (OpenSpec.upto fnInPlaceSymmetricDifferenceSpec)

/-- 'laws.FnInPlaceUnion', WHERE WHAT IT READS IS OF BULK AT MOST 1048576: true; the input reads as it did. -/
def fnInPlaceUnionUptoRow : OpenClaim := { program := "ytbobddbndlckhaa", sum := "42c73340d21c057c2a1038269b5fb9c14f0a121a7347e8ff75bc5ddd7e12d425", func := "loop.example/pub-setsofbits/laws.FnInPlaceUnion", spec := "fnInPlaceUnion", unfollowed := true, recurses := true, apart := false, narrowed := true }
def FnInPlaceUnionUptoSaid : Prop := fnInPlaceUnionUptoRow.holds Try.pinned (OpenSpec.upto fnInPlaceUnionSpec)

/-- 'laws.FnInPlaceIntersection', WHERE WHAT IT READS IS OF BULK AT MOST 1048576: true; the input reads as it did. -/
def fnInPlaceIntersectionUptoRow : OpenClaim := { program := "ytbobddbndlckhaa", sum := "42c73340d21c057c2a1038269b5fb9c14f0a121a7347e8ff75bc5ddd7e12d425", func := "loop.example/pub-setsofbits/laws.FnInPlaceIntersection", spec := "fnInPlaceIntersection", unfollowed := true, recurses := true, apart := false, narrowed := true }
def FnInPlaceIntersectionUptoSaid : Prop := fnInPlaceIntersectionUptoRow.holds Try.pinned (OpenSpec.upto fnInPlaceIntersectionSpec)

/-- 'laws.FnDifference', WHERE WHAT IT READS IS OF BULK AT MOST 1048576: true; the input reads as it did. -/
def fnDifferenceUptoRow : OpenClaim := { program := "ytbobddbndlckhaa", sum := "42c73340d21c057c2a1038269b5fb9c14f0a121a7347e8ff75bc5ddd7e12d425", func := "loop.example/pub-setsofbits/laws.FnDifference", spec := "fnDifference", unfollowed := true, recurses := true, apart := false, narrowed := true }
def FnDifferenceUptoSaid : Prop := fnDifferenceUptoRow.holds Try.pinned (OpenSpec.upto fnDifferenceSpec)

/-- 'laws.FnSymmetricDifference', WHERE WHAT IT READS IS OF BULK AT MOST 1048576: true; the input reads as it did. -/
def fnSymmetricDifferenceUptoRow : OpenClaim := { program := "ytbobddbndlckhaa", sum := "42c73340d21c057c2a1038269b5fb9c14f0a121a7347e8ff75bc5ddd7e12d425", func := "loop.example/pub-setsofbits/laws.FnSymmetricDifference", spec := "fnSymmetricDifference", unfollowed := true, recurses := true, apart := false, narrowed := true }
def FnSymmetricDifferenceUptoSaid : Prop := fnSymmetricDifferenceUptoRow.holds Try.pinned (OpenSpec.upto fnSymmetricDifferenceSpec)

/-- 'laws.FnUnion', WHERE WHAT IT READS IS OF BULK AT MOST 1048576: true; the input reads as it did. -/
def fnUnionUptoRow : OpenClaim := { program := "ytbobddbndlckhaa", sum := "42c73340d21c057c2a1038269b5fb9c14f0a121a7347e8ff75bc5ddd7e12d425", func := "loop.example/pub-setsofbits/laws.FnUnion", spec := "fnUnion", unfollowed := true, recurses := true, apart := false, narrowed := true }
def FnUnionUptoSaid : Prop := fnUnionUptoRow.holds Try.pinned (OpenSpec.upto fnUnionSpec)

/-- 'laws.FnIntersection', WHERE WHAT IT READS IS OF BULK AT MOST 1048576: true; the input reads as it did. -/
def fnIntersectionUptoRow : OpenClaim := { program := "ytbobddbndlckhaa", sum := "42c73340d21c057c2a1038269b5fb9c14f0a121a7347e8ff75bc5ddd7e12d425", func := "loop.example/pub-setsofbits/laws.FnIntersection", spec := "fnIntersection", unfollowed := true, recurses := true, apart := false, narrowed := true }
def FnIntersectionUptoSaid : Prop := fnIntersectionUptoRow.holds Try.pinned (OpenSpec.upto fnIntersectionSpec)

/-- 'laws.FnComplement', WHERE WHAT IT READS IS OF BULK AT MOST 1048576: true; the input reads as it did. -/
def fnComplementUptoRow : OpenClaim := { program := "ytbobddbndlckhaa", sum := "42c73340d21c057c2a1038269b5fb9c14f0a121a7347e8ff75bc5ddd7e12d425", func := "loop.example/pub-setsofbits/laws.FnComplement", spec := "fnComplement", unfollowed := true, recurses := true, apart := false, narrowed := true }
def FnComplementUptoSaid : Prop := fnComplementUptoRow.holds Try.pinned (OpenSpec.upto fnComplementSpec)

/-- 'laws.FnDeMorgan', WHERE WHAT IT READS IS OF BULK AT MOST 1048576: true; the input reads as it did. -/
def fnDeMorganUptoRow : OpenClaim := { program := "ytbobddbndlckhaa", sum := "42c73340d21c057c2a1038269b5fb9c14f0a121a7347e8ff75bc5ddd7e12d425", func := "loop.example/pub-setsofbits/laws.FnDeMorgan", spec := "fnDeMorgan", unfollowed := true, recurses := true, apart := false, narrowed := true }
def FnDeMorganUptoSaid : Prop := fnDeMorganUptoRow.holds Try.pinned (OpenSpec.upto fnDeMorganSpec)

/-- 'laws.FnFlipRange', WHERE WHAT IT READS IS OF BULK AT MOST 1048576: true; the input reads as it did. -/
def fnFlipRangeUptoRow : OpenClaim := { program := "ytbobddbndlckhaa", sum := "42c73340d21c057c2a1038269b5fb9c14f0a121a7347e8ff75bc5ddd7e12d425", func := "loop.example/pub-setsofbits/laws.FnFlipRange", spec := "fnFlipRange", unfollowed := true, recurses := true, apart := false, narrowed := true }
def FnFlipRangeUptoSaid : Prop := fnFlipRangeUptoRow.holds Try.pinned (OpenSpec.upto fnFlipRangeSpec)

/-- 'laws.FnInsertDelete', WHERE WHAT IT READS IS OF BULK AT MOST 1048576: true; the input reads as it did. -/
def fnInsertDeleteUptoRow : OpenClaim := { program := "ytbobddbndlckhaa", sum := "42c73340d21c057c2a1038269b5fb9c14f0a121a7347e8ff75bc5ddd7e12d425", func := "loop.example/pub-setsofbits/laws.FnInsertDelete", spec := "fnInsertDelete", apart := false, narrowed := true }
def FnInsertDeleteUptoSaid : Prop := fnInsertDeleteUptoRow.holds Try.pinned (OpenSpec.upto fnInsertDeleteSpec)

end Rows
end Go.Proofs.Ytbobddbndlckhaa

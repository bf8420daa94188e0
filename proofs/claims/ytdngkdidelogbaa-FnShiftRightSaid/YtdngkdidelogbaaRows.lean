/-
  No cell of these rows narrows 'for every input' (looked for: loops, veiled, ifaces, maps, wideKeys, modest, calm, conditions, laid).
  DERIVED. THE GIVEN ROWS OF THIS SEAT. 12 by the template 'for every input the law returns true; each argument reads behind the call as it read before'; 0 by the template 'total and deterministic' (their statements: YtdngkdidelogbaaTotals.lean).
  GIVEN WITH THE SEED: the statements are not yours to turn. If you find one false, say at which input.
  Laid BY PROGRAM, IN A SANDBOX (cutbox-rows.mjs): the forced cells as the released guide's own fill.sh prints them over the translation 8cf1045689ebd123… (all of the seat's roots in one cut). By AI agents, Wed Nov 11 2026. No macro, syntax, notation, axiom, sorry.
-/
import Derived.Test.YtdngkdidelogbaaChecked
import GoSem.Claim
import GoSem.ClaimJoined
import GoSem.ClaimMapViews
import Derived.JoinedTies
import Derived.KernelRfl
namespace Go.Proofs.Ytdngkdidelogbaa
/- THE CELL 'sum', in the pinned program and in every row, IS THE sha256 OF THE DUMP (.gsa) THAT YtdngkdidelogbaaProg.lean LOADS. Nothing in Lean hashes anything: it is a label: what it is worth is what the hold of that sum in a sandbox is worth. -/
noncomputable def Try.pinned : Pinned := { name := "ytdngkdidelogbaa", sum := "8cf1045689ebd12385ae363432389023096d5be52605a56e0e71d39bee57d507", checked := Try.checked }
namespace Rows
def none {H : Type} : Left H := { results := [], args := [] }

/-- 'laws.FnCount': WHATEVER THE INPUT: true; the input reads as it did. -/
def fnCountSpec : ChangeSpec := { name := "fnCount", fn := fun _ => fun
  | [d] => { results := [.lit (.bool true)], args := [d] }
  | _ => none }
def fnCountRow : OpenClaim := { program := "ytdngkdidelogbaa", sum := "8cf1045689ebd12385ae363432389023096d5be52605a56e0e71d39bee57d507", func := "loop.example/pub-setsofbits/laws.FnCount", spec := "fnCount", apart := false }
def FnCountSaid : Prop := fnCountRow.holds Try.pinned (OpenSpec.ofChange fnCountSpec)

/-- ITS FALSE NEIGHBOUR: 'it returns false'. Refute it at one input. -/
def fnCountWrong : ChangeSpec := { name := "fnCount", fn := fun _ => fun
  | [d] => { results := [.lit (.bool false)], args := [d] }
  | _ => none }
def FnCountWrongFalsely : Prop := fnCountRow.holds Try.pinned (OpenSpec.ofChange fnCountWrong)

/-- 'laws.FnIntersectionCount': WHATEVER THE INPUT: true; the input reads as it did. -/
def fnIntersectionCountSpec : ChangeSpec := { name := "fnIntersectionCount", fn := fun _ => fun
  | [d1, d2] => { results := [.lit (.bool true)], args := [d1, d2] }
  | _ => none }
def fnIntersectionCountRow : OpenClaim := { program := "ytdngkdidelogbaa", sum := "8cf1045689ebd12385ae363432389023096d5be52605a56e0e71d39bee57d507", func := "loop.example/pub-setsofbits/laws.FnIntersectionCount", spec := "fnIntersectionCount", unfollowed := true, recurses := true, apart := false }
def FnIntersectionCountSaid : Prop := fnIntersectionCountRow.holds Try.pinned (OpenSpec.ofChange fnIntersectionCountSpec)

/-- ITS FALSE NEIGHBOUR: 'it returns false'. Refute it at one input. -/
def fnIntersectionCountWrong : ChangeSpec := { name := "fnIntersectionCount", fn := fun _ => fun
  | [d1, d2] => { results := [.lit (.bool false)], args := [d1, d2] }
  | _ => none }
def FnIntersectionCountWrongFalsely : Prop := fnIntersectionCountRow.holds Try.pinned (OpenSpec.ofChange fnIntersectionCountWrong)

/-- 'laws.FnUnionCount': WHATEVER THE INPUT: true; the input reads as it did. -/
def fnUnionCountSpec : ChangeSpec := { name := "fnUnionCount", fn := fun _ => fun
  | [d1, d2] => { results := [.lit (.bool true)], args := [d1, d2] }
  | _ => none }
def fnUnionCountRow : OpenClaim := { program := "ytdngkdidelogbaa", sum := "8cf1045689ebd12385ae363432389023096d5be52605a56e0e71d39bee57d507", func := "loop.example/pub-setsofbits/laws.FnUnionCount", spec := "fnUnionCount", unfollowed := true, recurses := true, apart := false }
def FnUnionCountSaid : Prop := fnUnionCountRow.holds Try.pinned (OpenSpec.ofChange fnUnionCountSpec)

/-- ITS FALSE NEIGHBOUR: 'it returns false'. Refute it at one input. -/
def fnUnionCountWrong : ChangeSpec := { name := "fnUnionCount", fn := fun _ => fun
  | [d1, d2] => { results := [.lit (.bool false)], args := [d1, d2] }
  | _ => none }
def FnUnionCountWrongFalsely : Prop := fnUnionCountRow.holds Try.pinned (OpenSpec.ofChange fnUnionCountWrong)

/-- 'laws.FnDifferenceCount': WHATEVER THE INPUT: true; the input reads as it did. -/
def fnDifferenceCountSpec : ChangeSpec := { name := "fnDifferenceCount", fn := fun _ => fun
  | [d1, d2] => { results := [.lit (.bool true)], args := [d1, d2] }
  | _ => none }
def fnDifferenceCountRow : OpenClaim := { program := "ytdngkdidelogbaa", sum := "8cf1045689ebd12385ae363432389023096d5be52605a56e0e71d39bee57d507", func := "loop.example/pub-setsofbits/laws.FnDifferenceCount", spec := "fnDifferenceCount", unfollowed := true, recurses := true, apart := false }
def FnDifferenceCountSaid : Prop := fnDifferenceCountRow.holds Try.pinned (OpenSpec.ofChange fnDifferenceCountSpec)

/-- ITS FALSE NEIGHBOUR: 'it returns false'. Refute it at one input. -/
def fnDifferenceCountWrong : ChangeSpec := { name := "fnDifferenceCount", fn := fun _ => fun
  | [d1, d2] => { results := [.lit (.bool false)], args := [d1, d2] }
  | _ => none }
def FnDifferenceCountWrongFalsely : Prop := fnDifferenceCountRow.holds Try.pinned (OpenSpec.ofChange fnDifferenceCountWrong)

/-- 'laws.FnSymmetricDifferenceCount': WHATEVER THE INPUT: true; the input reads as it did. -/
def fnSymmetricDifferenceCountSpec : ChangeSpec := { name := "fnSymmetricDifferenceCount", fn := fun _ => fun
  | [d1, d2] => { results := [.lit (.bool true)], args := [d1, d2] }
  | _ => none }
def fnSymmetricDifferenceCountRow : OpenClaim := { program := "ytdngkdidelogbaa", sum := "8cf1045689ebd12385ae363432389023096d5be52605a56e0e71d39bee57d507", func := "loop.example/pub-setsofbits/laws.FnSymmetricDifferenceCount", spec := "fnSymmetricDifferenceCount", unfollowed := true, recurses := true, apart := false }
def FnSymmetricDifferenceCountSaid : Prop := fnSymmetricDifferenceCountRow.holds Try.pinned (OpenSpec.ofChange fnSymmetricDifferenceCountSpec)

/-- ITS FALSE NEIGHBOUR: 'it returns false'. Refute it at one input. -/
def fnSymmetricDifferenceCountWrong : ChangeSpec := { name := "fnSymmetricDifferenceCount", fn := fun _ => fun
  | [d1, d2] => { results := [.lit (.bool false)], args := [d1, d2] }
  | _ => none }
def FnSymmetricDifferenceCountWrongFalsely : Prop := fnSymmetricDifferenceCountRow.holds Try.pinned (OpenSpec.ofChange fnSymmetricDifferenceCountWrong)

/-- 'laws.FnSuperSet': WHATEVER THE INPUT: true; the input reads as it did. -/
def fnSuperSetSpec : ChangeSpec := { name := "fnSuperSet", fn := fun _ => fun
  | [d1, d2] => { results := [.lit (.bool true)], args := [d1, d2] }
  | _ => none }
def fnSuperSetRow : OpenClaim := { program := "ytdngkdidelogbaa", sum := "8cf1045689ebd12385ae363432389023096d5be52605a56e0e71d39bee57d507", func := "loop.example/pub-setsofbits/laws.FnSuperSet", spec := "fnSuperSet", apart := false }
def FnSuperSetSaid : Prop := fnSuperSetRow.holds Try.pinned (OpenSpec.ofChange fnSuperSetSpec)

/-- ITS FALSE NEIGHBOUR: 'it returns false'. Refute it at one input. -/
def fnSuperSetWrong : ChangeSpec := { name := "fnSuperSet", fn := fun _ => fun
  | [d1, d2] => { results := [.lit (.bool false)], args := [d1, d2] }
  | _ => none }
def FnSuperSetWrongFalsely : Prop := fnSuperSetRow.holds Try.pinned (OpenSpec.ofChange fnSuperSetWrong)

/-- 'laws.FnStrictSuperSet': WHATEVER THE INPUT: true; the input reads as it did. -/
def fnStrictSuperSetSpec : ChangeSpec := { name := "fnStrictSuperSet", fn := fun _ => fun
  | [d1, d2] => { results := [.lit (.bool true)], args := [d1, d2] }
  | _ => none }
def fnStrictSuperSetRow : OpenClaim := { program := "ytdngkdidelogbaa", sum := "8cf1045689ebd12385ae363432389023096d5be52605a56e0e71d39bee57d507", func := "loop.example/pub-setsofbits/laws.FnStrictSuperSet", spec := "fnStrictSuperSet", apart := false }
def FnStrictSuperSetSaid : Prop := fnStrictSuperSetRow.holds Try.pinned (OpenSpec.ofChange fnStrictSuperSetSpec)

/-- ITS FALSE NEIGHBOUR: 'it returns false'. Refute it at one input. -/
def fnStrictSuperSetWrong : ChangeSpec := { name := "fnStrictSuperSet", fn := fun _ => fun
  | [d1, d2] => { results := [.lit (.bool false)], args := [d1, d2] }
  | _ => none }
def FnStrictSuperSetWrongFalsely : Prop := fnStrictSuperSetRow.holds Try.pinned (OpenSpec.ofChange fnStrictSuperSetWrong)

/-- 'laws.FnAny': WHATEVER THE INPUT: true; the input reads as it did. -/
def fnAnySpec : ChangeSpec := { name := "fnAny", fn := fun _ => fun
  | [d] => { results := [.lit (.bool true)], args := [d] }
  | _ => none }
def fnAnyRow : OpenClaim := { program := "ytdngkdidelogbaa", sum := "8cf1045689ebd12385ae363432389023096d5be52605a56e0e71d39bee57d507", func := "loop.example/pub-setsofbits/laws.FnAny", spec := "fnAny", apart := false }
def FnAnySaid : Prop := fnAnyRow.holds Try.pinned (OpenSpec.ofChange fnAnySpec)

/-- ITS FALSE NEIGHBOUR: 'it returns false'. Refute it at one input. -/
def fnAnyWrong : ChangeSpec := { name := "fnAny", fn := fun _ => fun
  | [d] => { results := [.lit (.bool false)], args := [d] }
  | _ => none }
def FnAnyWrongFalsely : Prop := fnAnyRow.holds Try.pinned (OpenSpec.ofChange fnAnyWrong)

/-- 'laws.FnOnesBetween': WHATEVER THE INPUT: true; the input reads as it did. -/
def fnOnesBetweenSpec : ChangeSpec := { name := "fnOnesBetween", fn := fun _ => fun
  | [d1, d2, d3] => { results := [.lit (.bool true)], args := [d1, d2, d3] }
  | _ => none }
def fnOnesBetweenRow : OpenClaim := { program := "ytdngkdidelogbaa", sum := "8cf1045689ebd12385ae363432389023096d5be52605a56e0e71d39bee57d507", func := "loop.example/pub-setsofbits/laws.FnOnesBetween", spec := "fnOnesBetween", apart := false }
def FnOnesBetweenSaid : Prop := fnOnesBetweenRow.holds Try.pinned (OpenSpec.ofChange fnOnesBetweenSpec)

/-- ITS FALSE NEIGHBOUR: 'it returns false'. Refute it at one input. -/
def fnOnesBetweenWrong : ChangeSpec := { name := "fnOnesBetween", fn := fun _ => fun
  | [d1, d2, d3] => { results := [.lit (.bool false)], args := [d1, d2, d3] }
  | _ => none }
def FnOnesBetweenWrongFalsely : Prop := fnOnesBetweenRow.holds Try.pinned (OpenSpec.ofChange fnOnesBetweenWrong)

/-- 'laws.FnShiftRight': WHATEVER THE INPUT: true; the input reads as it did. -/
def fnShiftRightSpec : ChangeSpec := { name := "fnShiftRight", fn := fun _ => fun
  | [d1, d2] => { results := [.lit (.bool true)], args := [d1, d2] }
  | _ => none }
def fnShiftRightRow : OpenClaim := { program := "ytdngkdidelogbaa", sum := "8cf1045689ebd12385ae363432389023096d5be52605a56e0e71d39bee57d507", func := "loop.example/pub-setsofbits/laws.FnShiftRight", spec := "fnShiftRight", unfollowed := true, recurses := true, apart := false }
def FnShiftRightSaid : Prop := fnShiftRightRow.holds Try.pinned (OpenSpec.ofChange fnShiftRightSpec)

/-- ITS FALSE NEIGHBOUR: 'it returns false'. Refute it at one input. -/
def fnShiftRightWrong : ChangeSpec := { name := "fnShiftRight", fn := fun _ => fun
  | [d1, d2] => { results := [.lit (.bool false)], args := [d1, d2] }
  | _ => none }
def FnShiftRightWrongFalsely : Prop := fnShiftRightRow.holds Try.pinned (OpenSpec.ofChange fnShiftRightWrong)

/-- 'laws.FnShiftTwice': WHATEVER THE INPUT: true; the input reads as it did. -/
def fnShiftTwiceSpec : ChangeSpec := { name := "fnShiftTwice", fn := fun _ => fun
  | [d1, d2, d3] => { results := [.lit (.bool true)], args := [d1, d2, d3] }
  | _ => none }
def fnShiftTwiceRow : OpenClaim := { program := "ytdngkdidelogbaa", sum := "8cf1045689ebd12385ae363432389023096d5be52605a56e0e71d39bee57d507", func := "loop.example/pub-setsofbits/laws.FnShiftTwice", spec := "fnShiftTwice", unfollowed := true, recurses := true, apart := false }
def FnShiftTwiceSaid : Prop := fnShiftTwiceRow.holds Try.pinned (OpenSpec.ofChange fnShiftTwiceSpec)

/-- ITS FALSE NEIGHBOUR: 'it returns false'. Refute it at one input. -/
def fnShiftTwiceWrong : ChangeSpec := { name := "fnShiftTwice", fn := fun _ => fun
  | [d1, d2, d3] => { results := [.lit (.bool false)], args := [d1, d2, d3] }
  | _ => none }
def FnShiftTwiceWrongFalsely : Prop := fnShiftTwiceRow.holds Try.pinned (OpenSpec.ofChange fnShiftTwiceWrong)

/-- 'laws.FnShiftLeft': WHATEVER THE INPUT: true; the input reads as it did. -/
def fnShiftLeftSpec : ChangeSpec := { name := "fnShiftLeft", fn := fun _ => fun
  | [d1, d2] => { results := [.lit (.bool true)], args := [d1, d2] }
  | _ => none }
def fnShiftLeftRow : OpenClaim := { program := "ytdngkdidelogbaa", sum := "8cf1045689ebd12385ae363432389023096d5be52605a56e0e71d39bee57d507", func := "loop.example/pub-setsofbits/laws.FnShiftLeft", spec := "fnShiftLeft", unfollowed := true, recurses := true, apart := false }
def FnShiftLeftSaid : Prop := fnShiftLeftRow.holds Try.pinned (OpenSpec.ofChange fnShiftLeftSpec)

/-- ITS FALSE NEIGHBOUR: 'it returns false'. Refute it at one input. -/
def fnShiftLeftWrong : ChangeSpec := { name := "fnShiftLeft", fn := fun _ => fun
  | [d1, d2] => { results := [.lit (.bool false)], args := [d1, d2] }
  | _ => none }
def FnShiftLeftWrongFalsely : Prop := fnShiftLeftRow.holds Try.pinned (OpenSpec.ofChange fnShiftLeftWrong)

/- THE SECOND FORM. 'bulk': how many values and letters a reading holds, each counted each time it is reached (what is shared counts as often as it is met; a slice's spare places count too). A statement '..UptoSaid' is the law's where the arguments, and the package variables that the reading takes, are together of bulk at most 1048576: NARROWER than '..Said'. Prove '..Said' where nothing that the law and all that it calls make is longer than what came in: it says more and counts as full. Else prove '..UptoSaid'. A law counts once. -/
mutual
def uptoBulk {H : Type} : DataW H → Nat
  | .lit (.string bytes) => bytes.length + 1
  | .lit _ => 1
  | .nil => 1
  | .ptr d => uptoBulk d + 1
  | .slice elems spare => uptoBulkAll elems + uptoBulkAll spare + 1
  | .agg parts => uptoBulkAll parts + 1
  | .iface _ d => uptoBulk d + 1
  | .map entries => uptoBulkEntries entries + 1
  | .held _ => 1
def uptoBulkAll {H : Type} : List (DataW H) → Nat
  | [] => 0
  | d :: r => uptoBulk d + uptoBulkAll r
def uptoBulkEntries {H : Type} : List (Lit × DataW H) → Nat
  | [] => 0
  | x :: r => uptoBulkEntry x + uptoBulkEntries r
def uptoBulkEntry {H : Type} : Lit × DataW H → Nat
  | (.string bytes, d) => bytes.length + uptoBulk d + 1
  | (_, d) => uptoBulk d + 1
 end
def uptoSmall : (H : Type) → List (DataW H) → Bool := fun _ ds => decide (uptoBulkAll ds ≤ 1048576)
def OpenSpec.upto (s : _root_.Go.ChangeSpec) : _root_.Go.OpenSpec := { _root_.Go.OpenSpec.ofChange s with cond := some uptoSmall }

/-- 'laws.FnCount', WHERE WHAT IT READS IS OF BULK AT MOST 1048576: true; the input reads as it did. -/
def fnCountUptoRow : OpenClaim := { program := "ytdngkdidelogbaa", sum := "8cf1045689ebd12385ae363432389023096d5be52605a56e0e71d39bee57d507", func := "loop.example/pub-setsofbits/laws.FnCount", spec := "fnCount", apart := false, narrowed := true }
def FnCountUptoSaid : Prop := fnCountUptoRow.holds Try.pinned (OpenSpec.upto fnCountSpec)

/-- 'laws.FnIntersectionCount', WHERE WHAT IT READS IS OF BULK AT MOST 1048576: true; the input reads as it did. -/
def fnIntersectionCountUptoRow : OpenClaim := { program := "ytdngkdidelogbaa", sum := "8cf1045689ebd12385ae363432389023096d5be52605a56e0e71d39bee57d507", func := "loop.example/pub-setsofbits/laws.FnIntersectionCount", spec := "fnIntersectionCount", unfollowed := true, recurses := true, apart := false, narrowed := true }
def FnIntersectionCountUptoSaid : Prop := fnIntersectionCountUptoRow.holds Try.pinned (OpenSpec.upto fnIntersectionCountSpec)

/-- 'laws.FnUnionCount', WHERE WHAT IT READS IS OF BULK AT MOST 1048576: true; the input reads as it did. -/
def fnUnionCountUptoRow : OpenClaim := { program := "ytdngkdidelogbaa", sum := "8cf1045689ebd12385ae363432389023096d5be52605a56e0e71d39bee57d507", func := "loop.example/pub-setsofbits/laws.FnUnionCount", spec := "fnUnionCount", unfollowed := true, recurses := true, apart := false, narrowed := true }
def FnUnionCountUptoSaid : Prop := fnUnionCountUptoRow.holds Try.pinned (OpenSpec.upto fnUnionCountSpec)

/-- 'laws.FnDifferenceCount', WHERE WHAT IT READS IS OF BULK AT MOST 1048576: true; the input reads as it did. -/
def fnDifferenceCountUptoRow : OpenClaim := { program := "ytdngkdidelogbaa", sum := "8cf1045689ebd12385ae363432389023096d5be52605a56e0e71d39bee57d507", func := "loop.example/pub-setsofbits/laws.FnDifferenceCount", spec := "fnDifferenceCount", unfollowed := true, recurses := true, apart := false, narrowed := true }
def FnDifferenceCountUptoSaid : Prop := fnDifferenceCountUptoRow.holds Try.pinned (OpenSpec.upto fnDifferenceCountSpec)

/-- 'laws.FnSymmetricDifferenceCount', WHERE WHAT IT READS IS OF BULK AT MOST 1048576: true; the input reads as it did. -/
def fnSymmetricDifferenceCountUptoRow : OpenClaim := { program := "ytdngkdidelogbaa", sum := "8cf1045689ebd12385ae363432389023096d5be52605a56e0e71d39bee57d507", func := "loop.example/pub-setsofbits/laws.FnSymmetricDifferenceCount", spec := "fnSymmetricDifferenceCount", unfollowed := true, recurses := true, apart := false, narrowed := true }
def FnSymmetricDifferenceCountUptoSaid : Prop := fnSymmetricDifferenceCountUptoRow.holds Try.pinned (OpenSpec.upto fnSymmetricDifferenceCountSpec)

/-- 'laws.FnSuperSet', WHERE WHAT IT READS IS OF BULK AT MOST 1048576: true; the input reads as it did. -/
def fnSuperSetUptoRow : OpenClaim := { program := "ytdngkdidelogbaa", sum := "8cf1045689ebd12385ae363432389023096d5be52605a56e0e71d39bee57d507", func := "loop.example/pub-setsofbits/laws.FnSuperSet", spec := "fnSuperSet", apart := false, narrowed := true }
def FnSuperSetUptoSaid : Prop := fnSuperSetUptoRow.holds Try.pinned (OpenSpec.upto fnSuperSetSpec)

/-- 'laws.FnStrictSuperSet', WHERE WHAT IT READS IS OF BULK AT MOST 1048576: true; the input reads as it did. -/
def fnStrictSuperSetUptoRow : OpenClaim := { program := "ytdngkdidelogbaa", sum := "8cf1045689ebd12385ae363432389023096d5be52605a56e0e71d39bee57d507", func := "loop.example/pub-setsofbits/laws.FnStrictSuperSet", spec := "fnStrictSuperSet", apart := false, narrowed := true }
def FnStrictSuperSetUptoSaid : Prop := fnStrictSuperSetUptoRow.holds Try.pinned (OpenSpec.upto fnStrictSuperSetSpec)

/-- 'laws.FnAny', WHERE WHAT IT READS IS OF BULK AT MOST 1048576: true; the input reads as it did. -/
def fnAnyUptoRow : OpenClaim := { program := "ytdngkdidelogbaa", sum := "8cf1045689ebd12385ae363432389023096d5be52605a56e0e71d39bee57d507", func := "loop.example/pub-setsofbits/laws.FnAny", spec := "fnAny", apart := false, narrowed := true }
def FnAnyUptoSaid : Prop := fnAnyUptoRow.holds Try.pinned (OpenSpec.upto fnAnySpec)

/-- 'laws.FnOnesBetween', WHERE WHAT IT READS IS OF BULK AT MOST 1048576: true; the input reads as it did. -/
def fnOnesBetweenUptoRow : OpenClaim := { program := "ytdngkdidelogbaa", sum := "8cf1045689ebd12385ae363432389023096d5be52605a56e0e71d39bee57d507", func := "loop.example/pub-setsofbits/laws.FnOnesBetween", spec := "fnOnesBetween", apart := false, narrowed := true }
def FnOnesBetweenUptoSaid : Prop := fnOnesBetweenUptoRow.holds Try.pinned (OpenSpec.upto fnOnesBetweenSpec)

/-- 'laws.FnShiftRight', WHERE WHAT IT READS IS OF BULK AT MOST 1048576: true; the input reads as it did. -/
def fnShiftRightUptoRow : OpenClaim := { program := "ytdngkdidelogbaa", sum := "8cf1045689ebd12385ae363432389023096d5be52605a56e0e71d39bee57d507", func := "loop.example/pub-setsofbits/laws.FnShiftRight", spec := "fnShiftRight", unfollowed := true, recurses := true, apart := false, narrowed := true }
def FnShiftRightUptoSaid : Prop := fnShiftRightUptoRow.holds Try.pinned (OpenSpec.upto fnShiftRightSpec)

/-- 'laws.FnShiftTwice', WHERE WHAT IT READS IS OF BULK AT MOST 1048576: true; the input reads as it did. -/
def fnShiftTwiceUptoRow : OpenClaim := { program := "ytdngkdidelogbaa", sum := "8cf1045689ebd12385ae363432389023096d5be52605a56e0e71d39bee57d507", func := "loop.example/pub-setsofbits/laws.FnShiftTwice", spec := "fnShiftTwice", unfollowed := true, recurses := true, apart := false, narrowed := true }
def FnShiftTwiceUptoSaid : Prop := fnShiftTwiceUptoRow.holds Try.pinned (OpenSpec.upto fnShiftTwiceSpec)

/-- 'laws.FnShiftLeft', WHERE WHAT IT READS IS OF BULK AT MOST 1048576: true; the input reads as it did. -/
def fnShiftLeftUptoRow : OpenClaim := { program := "ytdngkdidelogbaa", sum := "8cf1045689ebd12385ae363432389023096d5be52605a56e0e71d39bee57d507", func := "loop.example/pub-setsofbits/laws.FnShiftLeft", spec := "fnShiftLeft", unfollowed := true, recurses := true, apart := false, narrowed := true }
def FnShiftLeftUptoSaid : Prop := fnShiftLeftUptoRow.holds Try.pinned (OpenSpec.upto fnShiftLeftSpec)

end Rows
end Go.Proofs.Ytdngkdidelogbaa

/-
  No cell of these rows narrows 'for every input' (looked for: loops, veiled, ifaces, maps, wideKeys, modest, calm, conditions, laid).
  DERIVED. THE GIVEN ROWS OF THIS SEAT. 12 by the template 'for every input the law returns true; each argument reads behind the call as it read before'; 0 by the template 'total and deterministic' (their statements: YtfdddnpmgaoddaaTotals.lean).
  GIVEN WITH THE SEED: the statements are not yours to turn. If you find one false, say at which input.
  Laid BY PROGRAM, IN A SANDBOX (cutbox-rows.mjs): the forced cells as the released guide's own fill.sh prints them over the translation e7c303e7819a258b… (all of the seat's roots in one cut). By AI agents, Wed Nov 11 2026. No macro, syntax, notation, axiom, sorry.
-/
import Derived.Test.YtfdddnpmgaoddaaChecked
import GoSem.Claim
import GoSem.ClaimJoined
import GoSem.ClaimMapViews
import Derived.JoinedTies
import Derived.KernelRfl
namespace Go.Proofs.Ytfdddnpmgaoddaa
/- THE CELL 'sum', in the pinned program and in every row, IS THE sha256 OF THE DUMP (.gsa) THAT YtfdddnpmgaoddaaProg.lean LOADS. Nothing in Lean hashes anything: it is a label: what it is worth is what the hold of that sum in a sandbox is worth. -/
noncomputable def Try.pinned : Pinned := { name := "ytfdddnpmgaoddaa", sum := "e7c303e7819a258b42590407ba098a33eb7f76eb927b11988986b5f65085e303", checked := Try.checked }
namespace Rows
def none {H : Type} : Left H := { results := [], args := [] }

/-- 'laws.FnEqual': WHATEVER THE INPUT: true; the input reads as it did. -/
def fnEqualSpec : ChangeSpec := { name := "fnEqual", fn := fun _ => fun
  | [d1, d2] => { results := [.lit (.bool true)], args := [d1, d2] }
  | _ => none }
def fnEqualRow : OpenClaim := { program := "ytfdddnpmgaoddaa", sum := "e7c303e7819a258b42590407ba098a33eb7f76eb927b11988986b5f65085e303", func := "loop.example/pub-setsofbits/laws.FnEqual", spec := "fnEqual", apart := false }
def FnEqualSaid : Prop := fnEqualRow.holds Try.pinned (OpenSpec.ofChange fnEqualSpec)

/-- ITS FALSE NEIGHBOUR: 'it returns false'. Refute it at one input. -/
def fnEqualWrong : ChangeSpec := { name := "fnEqual", fn := fun _ => fun
  | [d1, d2] => { results := [.lit (.bool false)], args := [d1, d2] }
  | _ => none }
def FnEqualWrongFalsely : Prop := fnEqualRow.holds Try.pinned (OpenSpec.ofChange fnEqualWrong)

/-- 'laws.FnSetTo': WHATEVER THE INPUT: true; the input reads as it did. -/
def fnSetToSpec : ChangeSpec := { name := "fnSetTo", fn := fun _ => fun
  | [d1, d2, d3] => { results := [.lit (.bool true)], args := [d1, d2, d3] }
  | _ => none }
def fnSetToRow : OpenClaim := { program := "ytfdddnpmgaoddaa", sum := "e7c303e7819a258b42590407ba098a33eb7f76eb927b11988986b5f65085e303", func := "loop.example/pub-setsofbits/laws.FnSetTo", spec := "fnSetTo", unfollowed := true, recurses := true, apart := false }
def FnSetToSaid : Prop := fnSetToRow.holds Try.pinned (OpenSpec.ofChange fnSetToSpec)

/-- ITS FALSE NEIGHBOUR: 'it returns false'. Refute it at one input. -/
def fnSetToWrong : ChangeSpec := { name := "fnSetTo", fn := fun _ => fun
  | [d1, d2, d3] => { results := [.lit (.bool false)], args := [d1, d2, d3] }
  | _ => none }
def FnSetToWrongFalsely : Prop := fnSetToRow.holds Try.pinned (OpenSpec.ofChange fnSetToWrong)

/-- 'laws.FnSetAll': WHATEVER THE INPUT: true; the input reads as it did. -/
def fnSetAllSpec : ChangeSpec := { name := "fnSetAll", fn := fun _ => fun
  | [d] => { results := [.lit (.bool true)], args := [d] }
  | _ => none }
def fnSetAllRow : OpenClaim := { program := "ytfdddnpmgaoddaa", sum := "e7c303e7819a258b42590407ba098a33eb7f76eb927b11988986b5f65085e303", func := "loop.example/pub-setsofbits/laws.FnSetAll", spec := "fnSetAll", unfollowed := true, recurses := true, apart := false }
def FnSetAllSaid : Prop := fnSetAllRow.holds Try.pinned (OpenSpec.ofChange fnSetAllSpec)

/-- ITS FALSE NEIGHBOUR: 'it returns false'. Refute it at one input. -/
def fnSetAllWrong : ChangeSpec := { name := "fnSetAll", fn := fun _ => fun
  | [d] => { results := [.lit (.bool false)], args := [d] }
  | _ => none }
def FnSetAllWrongFalsely : Prop := fnSetAllRow.holds Try.pinned (OpenSpec.ofChange fnSetAllWrong)

/-- 'laws.FnShrink': WHATEVER THE INPUT: true; the input reads as it did. -/
def fnShrinkSpec : ChangeSpec := { name := "fnShrink", fn := fun _ => fun
  | [d1, d2] => { results := [.lit (.bool true)], args := [d1, d2] }
  | _ => none }
def fnShrinkRow : OpenClaim := { program := "ytfdddnpmgaoddaa", sum := "e7c303e7819a258b42590407ba098a33eb7f76eb927b11988986b5f65085e303", func := "loop.example/pub-setsofbits/laws.FnShrink", spec := "fnShrink", unfollowed := true, recurses := true, apart := false }
def FnShrinkSaid : Prop := fnShrinkRow.holds Try.pinned (OpenSpec.ofChange fnShrinkSpec)

/-- ITS FALSE NEIGHBOUR: 'it returns false'. Refute it at one input. -/
def fnShrinkWrong : ChangeSpec := { name := "fnShrink", fn := fun _ => fun
  | [d1, d2] => { results := [.lit (.bool false)], args := [d1, d2] }
  | _ => none }
def FnShrinkWrongFalsely : Prop := fnShrinkRow.holds Try.pinned (OpenSpec.ofChange fnShrinkWrong)

/-- 'laws.FnCopyFull': WHATEVER THE INPUT: true; the input reads as it did. -/
def fnCopyFullSpec : ChangeSpec := { name := "fnCopyFull", fn := fun _ => fun
  | [d1, d2] => { results := [.lit (.bool true)], args := [d1, d2] }
  | _ => none }
def fnCopyFullRow : OpenClaim := { program := "ytfdddnpmgaoddaa", sum := "e7c303e7819a258b42590407ba098a33eb7f76eb927b11988986b5f65085e303", func := "loop.example/pub-setsofbits/laws.FnCopyFull", spec := "fnCopyFull", apart := false }
def FnCopyFullSaid : Prop := fnCopyFullRow.holds Try.pinned (OpenSpec.ofChange fnCopyFullSpec)

/-- ITS FALSE NEIGHBOUR: 'it returns false'. Refute it at one input. -/
def fnCopyFullWrong : ChangeSpec := { name := "fnCopyFull", fn := fun _ => fun
  | [d1, d2] => { results := [.lit (.bool false)], args := [d1, d2] }
  | _ => none }
def FnCopyFullWrongFalsely : Prop := fnCopyFullRow.holds Try.pinned (OpenSpec.ofChange fnCopyFullWrong)

/-- 'laws.FnClone': WHATEVER THE INPUT: true; the input reads as it did. -/
def fnCloneSpec : ChangeSpec := { name := "fnClone", fn := fun _ => fun
  | [d] => { results := [.lit (.bool true)], args := [d] }
  | _ => none }
def fnCloneRow : OpenClaim := { program := "ytfdddnpmgaoddaa", sum := "e7c303e7819a258b42590407ba098a33eb7f76eb927b11988986b5f65085e303", func := "loop.example/pub-setsofbits/laws.FnClone", spec := "fnClone", unfollowed := true, recurses := true, apart := false }
def FnCloneSaid : Prop := fnCloneRow.holds Try.pinned (OpenSpec.ofChange fnCloneSpec)

/-- ITS FALSE NEIGHBOUR: 'it returns false'. Refute it at one input. -/
def fnCloneWrong : ChangeSpec := { name := "fnClone", fn := fun _ => fun
  | [d] => { results := [.lit (.bool false)], args := [d] }
  | _ => none }
def FnCloneWrongFalsely : Prop := fnCloneRow.holds Try.pinned (OpenSpec.ofChange fnCloneWrong)

/-- 'laws.FnCopy': WHATEVER THE INPUT: true; the input reads as it did. -/
def fnCopySpec : ChangeSpec := { name := "fnCopy", fn := fun _ => fun
  | [d1, d2] => { results := [.lit (.bool true)], args := [d1, d2] }
  | _ => none }
def fnCopyRow : OpenClaim := { program := "ytfdddnpmgaoddaa", sum := "e7c303e7819a258b42590407ba098a33eb7f76eb927b11988986b5f65085e303", func := "loop.example/pub-setsofbits/laws.FnCopy", spec := "fnCopy", unfollowed := true, recurses := true, apart := false }
def FnCopySaid : Prop := fnCopyRow.holds Try.pinned (OpenSpec.ofChange fnCopySpec)

/-- ITS FALSE NEIGHBOUR: 'it returns false'. Refute it at one input. -/
def fnCopyWrong : ChangeSpec := { name := "fnCopy", fn := fun _ => fun
  | [d1, d2] => { results := [.lit (.bool false)], args := [d1, d2] }
  | _ => none }
def FnCopyWrongFalsely : Prop := fnCopyRow.holds Try.pinned (OpenSpec.ofChange fnCopyWrong)

/-- 'laws.FnCloneApart': WHATEVER THE INPUT: true; the input reads as it did. -/
def fnCloneApartSpec : ChangeSpec := { name := "fnCloneApart", fn := fun _ => fun
  | [d1, d2] => { results := [.lit (.bool true)], args := [d1, d2] }
  | _ => none }
def fnCloneApartRow : OpenClaim := { program := "ytfdddnpmgaoddaa", sum := "e7c303e7819a258b42590407ba098a33eb7f76eb927b11988986b5f65085e303", func := "loop.example/pub-setsofbits/laws.FnCloneApart", spec := "fnCloneApart", unfollowed := true, recurses := true, apart := false }
def FnCloneApartSaid : Prop := fnCloneApartRow.holds Try.pinned (OpenSpec.ofChange fnCloneApartSpec)

/-- ITS FALSE NEIGHBOUR: 'it returns false'. Refute it at one input. -/
def fnCloneApartWrong : ChangeSpec := { name := "fnCloneApart", fn := fun _ => fun
  | [d1, d2] => { results := [.lit (.bool false)], args := [d1, d2] }
  | _ => none }
def FnCloneApartWrongFalsely : Prop := fnCloneApartRow.holds Try.pinned (OpenSpec.ofChange fnCloneApartWrong)

/-- 'laws.FnCompact': WHATEVER THE INPUT: true; the input reads as it did. -/
def fnCompactSpec : ChangeSpec := { name := "fnCompact", fn := fun _ => fun
  | [d] => { results := [.lit (.bool true)], args := [d] }
  | _ => none }
def fnCompactRow : OpenClaim := { program := "ytfdddnpmgaoddaa", sum := "e7c303e7819a258b42590407ba098a33eb7f76eb927b11988986b5f65085e303", func := "loop.example/pub-setsofbits/laws.FnCompact", spec := "fnCompact", unfollowed := true, recurses := true, apart := false }
def FnCompactSaid : Prop := fnCompactRow.holds Try.pinned (OpenSpec.ofChange fnCompactSpec)

/-- ITS FALSE NEIGHBOUR: 'it returns false'. Refute it at one input. -/
def fnCompactWrong : ChangeSpec := { name := "fnCompact", fn := fun _ => fun
  | [d] => { results := [.lit (.bool false)], args := [d] }
  | _ => none }
def FnCompactWrongFalsely : Prop := fnCompactRow.holds Try.pinned (OpenSpec.ofChange fnCompactWrong)

/-- 'laws.FnSetRange': WHATEVER THE INPUT: true; the input reads as it did. -/
def fnSetRangeSpec : ChangeSpec := { name := "fnSetRange", fn := fun _ => fun
  | [d1, d2, d3] => { results := [.lit (.bool true)], args := [d1, d2, d3] }
  | _ => none }
def fnSetRangeRow : OpenClaim := { program := "ytfdddnpmgaoddaa", sum := "e7c303e7819a258b42590407ba098a33eb7f76eb927b11988986b5f65085e303", func := "loop.example/pub-setsofbits/laws.FnSetRange", spec := "fnSetRange", unfollowed := true, recurses := true, apart := false }
def FnSetRangeSaid : Prop := fnSetRangeRow.holds Try.pinned (OpenSpec.ofChange fnSetRangeSpec)

/-- ITS FALSE NEIGHBOUR: 'it returns false'. Refute it at one input. -/
def fnSetRangeWrong : ChangeSpec := { name := "fnSetRange", fn := fun _ => fun
  | [d1, d2, d3] => { results := [.lit (.bool false)], args := [d1, d2, d3] }
  | _ => none }
def FnSetRangeWrongFalsely : Prop := fnSetRangeRow.holds Try.pinned (OpenSpec.ofChange fnSetRangeWrong)

/-- 'laws.FnInsertAt': WHATEVER THE INPUT: true; the input reads as it did. -/
def fnInsertAtSpec : ChangeSpec := { name := "fnInsertAt", fn := fun _ => fun
  | [d1, d2] => { results := [.lit (.bool true)], args := [d1, d2] }
  | _ => none }
def fnInsertAtRow : OpenClaim := { program := "ytfdddnpmgaoddaa", sum := "e7c303e7819a258b42590407ba098a33eb7f76eb927b11988986b5f65085e303", func := "loop.example/pub-setsofbits/laws.FnInsertAt", spec := "fnInsertAt", unfollowed := true, recurses := true, apart := false }
def FnInsertAtSaid : Prop := fnInsertAtRow.holds Try.pinned (OpenSpec.ofChange fnInsertAtSpec)

/-- ITS FALSE NEIGHBOUR: 'it returns false'. Refute it at one input. -/
def fnInsertAtWrong : ChangeSpec := { name := "fnInsertAt", fn := fun _ => fun
  | [d1, d2] => { results := [.lit (.bool false)], args := [d1, d2] }
  | _ => none }
def FnInsertAtWrongFalsely : Prop := fnInsertAtRow.holds Try.pinned (OpenSpec.ofChange fnInsertAtWrong)

/-- 'laws.FnDeleteAt': WHATEVER THE INPUT: true; the input reads as it did. -/
def fnDeleteAtSpec : ChangeSpec := { name := "fnDeleteAt", fn := fun _ => fun
  | [d1, d2] => { results := [.lit (.bool true)], args := [d1, d2] }
  | _ => none }
def fnDeleteAtRow : OpenClaim := { program := "ytfdddnpmgaoddaa", sum := "e7c303e7819a258b42590407ba098a33eb7f76eb927b11988986b5f65085e303", func := "loop.example/pub-setsofbits/laws.FnDeleteAt", spec := "fnDeleteAt", unfollowed := true, recurses := true, apart := false }
def FnDeleteAtSaid : Prop := fnDeleteAtRow.holds Try.pinned (OpenSpec.ofChange fnDeleteAtSpec)

/-- ITS FALSE NEIGHBOUR: 'it returns false'. Refute it at one input. -/
def fnDeleteAtWrong : ChangeSpec := { name := "fnDeleteAt", fn := fun _ => fun
  | [d1, d2] => { results := [.lit (.bool false)], args := [d1, d2] }
  | _ => none }
def FnDeleteAtWrongFalsely : Prop := fnDeleteAtRow.holds Try.pinned (OpenSpec.ofChange fnDeleteAtWrong)

/- THE SECOND FORM. 'bulk': how many values and letters a reading holds, each counted each time it is reached (what is shared counts as often as it is met; a slice's spare places count too). A statement '..UptoSaid' is the law's where the arguments, and the package variables that the reading takes, are together of bulk at most 1048576: NARROWER than '..Said'. Prove '..Said' where nothing that the law and all that it calls make is longer than what came in: it says more and counts as full. Else prove '..UptoSaid'. A law counts once. -/
mutual
def uptoBulk {H : Type} : DataW H → Nat
  | .lit (.string bytes) => bytes.length + 1
  | .lit _ => 1
  | .nil => 1
  | .ptr d => uptoBulk d + 1
  | .slice elems spare => uptoBulkAll elems + uptoBulkAll spare + 1
  | .agg parts => uptoBulkAll parts + 1
  | .iface _ d => uptoBulk d + 1
  | .map entries => uptoBulkEntries entries + 1
  | .held _ => 1
def uptoBulkAll {H : Type} : List (DataW H) → Nat
  | [] => 0
  | d :: r => uptoBulk d + uptoBulkAll r
def uptoBulkEntries {H : Type} : List (Lit × DataW H) → Nat
  | [] => 0
  | x :: r => uptoBulkEntry x + uptoBulkEntries r
def uptoBulkEntry {H : Type} : Lit × DataW H → Nat
  | (.string bytes, d) => bytes.length + uptoBulk d + 1
  | (_, d) => uptoBulk d + 1
 end
def uptoSmall : (H : Type) → List (DataW H) → Bool := fun _ ds => decide (uptoBulkAll ds ≤ 1048576)
def OpenSpec.upto (s : _root_.Go.ChangeSpec) : _root_.Go.OpenSpec := { _root_.Go.OpenSpec.ofChange s with cond := some uptoSmall }

/-- 'laws.FnEqual', WHERE WHAT IT READS IS OF BULK AT MOST 1048576: true; the input reads as it did. -/
def fnEqualUptoRow : OpenClaim := { program := "ytfdddnpmgaoddaa", sum := "e7c303e7819a258b42590407ba098a33eb7f76eb927b11988986b5f65085e303", func := "loop.example/pub-setsofbits/laws.FnEqual", spec := "fnEqual", apart := false, narrowed := true }
def FnEqualUptoSaid : Prop := fnEqualUptoRow.holds Try.pinned (OpenSpec.upto fnEqualSpec)

/-- 'laws.FnSetTo', WHERE WHAT IT READS IS OF BULK AT MOST 1048576: true; the input reads as it did. -/
def fnSetToUptoRow : OpenClaim := { program := "ytfdddnpmgaoddaa", sum := "e7c303e7819a258b42590407ba098a33eb7f76eb927b11988986b5f65085e303", func := "loop.example/pub-setsofbits/laws.FnSetTo", spec := "fnSetTo", unfollowed := true, recurses := true, apart := false, narrowed := true }
def FnSetToUptoSaid : Prop := fnSetToUptoRow.holds Try.pinned (OpenSpec.upto fnSetToSpec)

/-- 'laws.FnSetAll', WHERE WHAT IT READS IS OF BULK AT MOST 1048576: true; the input reads as it did. -/
def fnSetAllUptoRow : OpenClaim := { program := "ytfdddnpmgaoddaa", sum := "e7c303e7819a258b42590407ba098a33eb7f76eb927b11988986b5f65085e303", func := "loop.example/pub-setsofbits/laws.FnSetAll", spec := "fnSetAll", unfollowed := true, recurses := true, apart := false, narrowed := true }
def FnSetAllUptoSaid : Prop := fnSetAllUptoRow.holds Try.pinned (OpenSpec.upto fnSetAllSpec)

/-- 'laws.FnShrink', WHERE WHAT IT READS IS OF BULK AT MOST 1048576: true; the input reads as it did. -/
def fnShrinkUptoRow : OpenClaim := { program := "ytfdddnpmgaoddaa", sum := "e7c303e7819a258b42590407ba098a33eb7f76eb927b11988986b5f65085e303", func := "loop.example/pub-setsofbits/laws.FnShrink", spec := "fnShrink", unfollowed := true, recurses := true, apart := false, narrowed := true }
def FnShrinkUptoSaid : Prop := fnShrinkUptoRow.holds Try.pinned (OpenSpec.upto fnShrinkSpec)

/-- 'laws.FnCopyFull', WHERE WHAT IT READS IS OF BULK AT MOST 1048576: true; the input reads as it did. -/
def fnCopyFullUptoRow : OpenClaim := { program := "ytfdddnpmgaoddaa", sum := "e7c303e7819a258b42590407ba098a33eb7f76eb927b11988986b5f65085e303", func := "loop.example/pub-setsofbits/laws.FnCopyFull", spec := "fnCopyFull", apart := false, narrowed := true }
def FnCopyFullUptoSaid : Prop := fnCopyFullUptoRow.holds Try.pinned (OpenSpec.upto fnCopyFullSpec)

/-- 'laws.FnClone', WHERE WHAT IT READS IS OF BULK AT MOST 1048576: true; the input reads as it did. -/
def fnCloneUptoRow : OpenClaim := { program := "ytfdddnpmgaoddaa", sum := "e7c303e7819a258b42590407ba098a33eb7f76eb927b11988986b5f65085e303", func := "loop.example/pub-setsofbits/laws.FnClone", spec := "fnClone", unfollowed := true, recurses := true, apart := false, narrowed := true }
def FnCloneUptoSaid : Prop := fnCloneUptoRow.holds Try.pinned (OpenSpec.upto fnCloneSpec)

/-- 'laws.FnCopy', WHERE WHAT IT READS IS OF BULK AT MOST 1048576: true; the input reads as it did. -/
def fnCopyUptoRow : OpenClaim := { program := "ytfdddnpmgaoddaa", sum := "e7c303e7819a258b42590407ba098a33eb7f76eb927b11988986b5f65085e303", func := "loop.example/pub-setsofbits/laws.FnCopy", spec := "fnCopy", unfollowed := true, recurses := true, apart := false, narrowed := true }
def FnCopyUptoSaid : Prop := fnCopyUptoRow.holds Try.pinned (OpenSpec.upto fnCopySpec)

/-- 'laws.FnCloneApart', WHERE WHAT IT READS IS OF BULK AT MOST 1048576: true; the input reads as it did. -/
def fnCloneApartUptoRow : OpenClaim := { program := "ytfdddnpmgaoddaa", sum := "e7c303e7819a258b42590407ba098a33eb7f76eb927b11988986b5f65085e303", func := "loop.example/pub-setsofbits/laws.FnCloneApart", spec := "fnCloneApart", unfollowed := true, recurses := true, apart := false, narrowed := true }
def FnCloneApartUptoSaid : Prop := fnCloneApartUptoRow.holds Try.pinned (OpenSpec.upto fnCloneApartSpec)

/-- 'laws.FnCompact', WHERE WHAT IT READS IS OF BULK AT MOST 1048576: true; the input reads as it did. -/
def fnCompactUptoRow : OpenClaim := { program := "ytfdddnpmgaoddaa", sum := "e7c303e7819a258b42590407ba098a33eb7f76eb927b11988986b5f65085e303", func := "loop.example/pub-setsofbits/laws.FnCompact", spec := "fnCompact", unfollowed := true, recurses := true, apart := false, narrowed := true }
def FnCompactUptoSaid : Prop := fnCompactUptoRow.holds Try.pinned (OpenSpec.upto fnCompactSpec)

/-- 'laws.FnSetRange', WHERE WHAT IT READS IS OF BULK AT MOST 1048576: true; the input reads as it did. -/
def fnSetRangeUptoRow : OpenClaim := { program := "ytfdddnpmgaoddaa", sum := "e7c303e7819a258b42590407ba098a33eb7f76eb927b11988986b5f65085e303", func := "loop.example/pub-setsofbits/laws.FnSetRange", spec := "fnSetRange", unfollowed := true, recurses := true, apart := false, narrowed := true }
def FnSetRangeUptoSaid : Prop := fnSetRangeUptoRow.holds Try.pinned (OpenSpec.upto fnSetRangeSpec)

/-- 'laws.FnInsertAt', WHERE WHAT IT READS IS OF BULK AT MOST 1048576: true; the input reads as it did. -/
def fnInsertAtUptoRow : OpenClaim := { program := "ytfdddnpmgaoddaa", sum := "e7c303e7819a258b42590407ba098a33eb7f76eb927b11988986b5f65085e303", func := "loop.example/pub-setsofbits/laws.FnInsertAt", spec := "fnInsertAt", unfollowed := true, recurses := true, apart := false, narrowed := true }
def FnInsertAtUptoSaid : Prop := fnInsertAtUptoRow.holds Try.pinned (OpenSpec.upto fnInsertAtSpec)

/-- 'laws.FnDeleteAt', WHERE WHAT IT READS IS OF BULK AT MOST 1048576: true; the input reads as it did. -/
def fnDeleteAtUptoRow : OpenClaim := { program := "ytfdddnpmgaoddaa", sum := "e7c303e7819a258b42590407ba098a33eb7f76eb927b11988986b5f65085e303", func := "loop.example/pub-setsofbits/laws.FnDeleteAt", spec := "fnDeleteAt", unfollowed := true, recurses := true, apart := false, narrowed := true }
def FnDeleteAtUptoSaid : Prop := fnDeleteAtUptoRow.holds Try.pinned (OpenSpec.upto fnDeleteAtSpec)

end Rows
end Go.Proofs.Ytfdddnpmgaoddaa

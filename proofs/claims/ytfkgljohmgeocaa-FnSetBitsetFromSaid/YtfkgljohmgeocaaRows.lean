/-
  No cell of these rows narrows 'for every input' (looked for: loops, veiled, ifaces, maps, wideKeys, modest, calm, conditions, laid).
  DERIVED. THE GIVEN ROWS OF THIS SEAT. 12 by the template 'for every input the law returns true; each argument reads behind the call as it read before'; 0 by the template 'total and deterministic' (their statements: YtfkgljohmgeocaaTotals.lean).
  GIVEN WITH THE SEED: the statements are not yours to turn. If you find one false, say at which input.
  Laid BY PROGRAM, IN A SANDBOX (cutbox-rows.mjs): the forced cells as the released guide's own fill.sh prints them over the translation 5dedfa41e54d0863… (all of the seat's roots in one cut). By AI agents, Wed Nov 11 2026. No macro, syntax, notation, axiom, sorry.
-/
import Derived.Test.YtfkgljohmgeocaaChecked
import GoSem.Claim
import GoSem.ClaimJoined
import GoSem.ClaimMapViews
import Derived.JoinedTies
import Derived.KernelRfl
namespace Go.Proofs.Ytfkgljohmgeocaa
/- THE CELL 'sum', in the pinned program and in every row, IS THE sha256 OF THE DUMP (.gsa) THAT YtfkgljohmgeocaaProg.lean LOADS. Nothing in Lean hashes anything: it is a label: what it is worth is what the hold of that sum in a sandbox is worth. -/
noncomputable def Try.pinned : Pinned := { name := "ytfkgljohmgeocaa", sum := "5dedfa41e54d08637b0b6a5afa56a96f444fc7d53fbf7aa67b09981d2b512818", checked := Try.checked }
namespace Rows
def none {H : Type} : Left H := { results := [], args := [] }

/-- 'laws.FnFromWithLength': WHATEVER THE INPUT: true; the input reads as it did. -/
def fnFromWithLengthSpec : ChangeSpec := { name := "fnFromWithLength", fn := fun _ => fun
  | [d1, d2] => { results := [.lit (.bool true)], args := [d1, d2] }
  | _ => none }
def fnFromWithLengthRow : OpenClaim := { program := "ytfkgljohmgeocaa", sum := "5dedfa41e54d08637b0b6a5afa56a96f444fc7d53fbf7aa67b09981d2b512818", func := "loop.example/pub-setsofbits/laws.FnFromWithLength", spec := "fnFromWithLength", unfollowed := true, recurses := true, apart := false }
def FnFromWithLengthSaid : Prop := fnFromWithLengthRow.holds Try.pinned (OpenSpec.ofChange fnFromWithLengthSpec)

/-- ITS FALSE NEIGHBOUR: 'it returns false'. Refute it at one input. -/
def fnFromWithLengthWrong : ChangeSpec := { name := "fnFromWithLength", fn := fun _ => fun
  | [d1, d2] => { results := [.lit (.bool false)], args := [d1, d2] }
  | _ => none }
def FnFromWithLengthWrongFalsely : Prop := fnFromWithLengthRow.holds Try.pinned (OpenSpec.ofChange fnFromWithLengthWrong)

/-- 'laws.FnFrom': WHATEVER THE INPUT: true; the input reads as it did. -/
def fnFromSpec : ChangeSpec := { name := "fnFrom", fn := fun _ => fun
  | [d] => { results := [.lit (.bool true)], args := [d] }
  | _ => none }
def fnFromRow : OpenClaim := { program := "ytfkgljohmgeocaa", sum := "5dedfa41e54d08637b0b6a5afa56a96f444fc7d53fbf7aa67b09981d2b512818", func := "loop.example/pub-setsofbits/laws.FnFrom", spec := "fnFrom", unfollowed := true, recurses := true, apart := false }
def FnFromSaid : Prop := fnFromRow.holds Try.pinned (OpenSpec.ofChange fnFromSpec)

/-- ITS FALSE NEIGHBOUR: 'it returns false'. Refute it at one input. -/
def fnFromWrong : ChangeSpec := { name := "fnFrom", fn := fun _ => fun
  | [d] => { results := [.lit (.bool false)], args := [d] }
  | _ => none }
def FnFromWrongFalsely : Prop := fnFromRow.holds Try.pinned (OpenSpec.ofChange fnFromWrong)

/-- 'laws.FnNew': WHATEVER THE INPUT: true; the input reads as it did. -/
def fnNewSpec : ChangeSpec := { name := "fnNew", fn := fun _ => fun
  | [d] => { results := [.lit (.bool true)], args := [d] }
  | _ => none }
def fnNewRow : OpenClaim := { program := "ytfkgljohmgeocaa", sum := "5dedfa41e54d08637b0b6a5afa56a96f444fc7d53fbf7aa67b09981d2b512818", func := "loop.example/pub-setsofbits/laws.FnNew", spec := "fnNew", unfollowed := true, recurses := true, apart := false }
def FnNewSaid : Prop := fnNewRow.holds Try.pinned (OpenSpec.ofChange fnNewSpec)

/-- ITS FALSE NEIGHBOUR: 'it returns false'. Refute it at one input. -/
def fnNewWrong : ChangeSpec := { name := "fnNew", fn := fun _ => fun
  | [d] => { results := [.lit (.bool false)], args := [d] }
  | _ => none }
def FnNewWrongFalsely : Prop := fnNewRow.holds Try.pinned (OpenSpec.ofChange fnNewWrong)

/-- 'laws.FnWords': WHATEVER THE INPUT: true; the input reads as it did. -/
def fnWordsSpec : ChangeSpec := { name := "fnWords", fn := fun _ => fun
  | [d] => { results := [.lit (.bool true)], args := [d] }
  | _ => none }
def fnWordsRow : OpenClaim := { program := "ytfkgljohmgeocaa", sum := "5dedfa41e54d08637b0b6a5afa56a96f444fc7d53fbf7aa67b09981d2b512818", func := "loop.example/pub-setsofbits/laws.FnWords", spec := "fnWords", unfollowed := true, recurses := true, apart := false }
def FnWordsSaid : Prop := fnWordsRow.holds Try.pinned (OpenSpec.ofChange fnWordsSpec)

/-- ITS FALSE NEIGHBOUR: 'it returns false'. Refute it at one input. -/
def fnWordsWrong : ChangeSpec := { name := "fnWords", fn := fun _ => fun
  | [d] => { results := [.lit (.bool false)], args := [d] }
  | _ => none }
def FnWordsWrongFalsely : Prop := fnWordsRow.holds Try.pinned (OpenSpec.ofChange fnWordsWrong)

/-- 'laws.FnTest': WHATEVER THE INPUT: true; the input reads as it did. -/
def fnTestSpec : ChangeSpec := { name := "fnTest", fn := fun _ => fun
  | [d1, d2] => { results := [.lit (.bool true)], args := [d1, d2] }
  | _ => none }
def fnTestRow : OpenClaim := { program := "ytfkgljohmgeocaa", sum := "5dedfa41e54d08637b0b6a5afa56a96f444fc7d53fbf7aa67b09981d2b512818", func := "loop.example/pub-setsofbits/laws.FnTest", spec := "fnTest", apart := false }
def FnTestSaid : Prop := fnTestRow.holds Try.pinned (OpenSpec.ofChange fnTestSpec)

/-- ITS FALSE NEIGHBOUR: 'it returns false'. Refute it at one input. -/
def fnTestWrong : ChangeSpec := { name := "fnTest", fn := fun _ => fun
  | [d1, d2] => { results := [.lit (.bool false)], args := [d1, d2] }
  | _ => none }
def FnTestWrongFalsely : Prop := fnTestRow.holds Try.pinned (OpenSpec.ofChange fnTestWrong)

/-- 'laws.FnWordAt': WHATEVER THE INPUT: true; the input reads as it did. -/
def fnWordAtSpec : ChangeSpec := { name := "fnWordAt", fn := fun _ => fun
  | [d1, d2] => { results := [.lit (.bool true)], args := [d1, d2] }
  | _ => none }
def fnWordAtRow : OpenClaim := { program := "ytfkgljohmgeocaa", sum := "5dedfa41e54d08637b0b6a5afa56a96f444fc7d53fbf7aa67b09981d2b512818", func := "loop.example/pub-setsofbits/laws.FnWordAt", spec := "fnWordAt", apart := false }
def FnWordAtSaid : Prop := fnWordAtRow.holds Try.pinned (OpenSpec.ofChange fnWordAtSpec)

/-- ITS FALSE NEIGHBOUR: 'it returns false'. Refute it at one input. -/
def fnWordAtWrong : ChangeSpec := { name := "fnWordAt", fn := fun _ => fun
  | [d1, d2] => { results := [.lit (.bool false)], args := [d1, d2] }
  | _ => none }
def FnWordAtWrongFalsely : Prop := fnWordAtRow.holds Try.pinned (OpenSpec.ofChange fnWordAtWrong)

/-- 'laws.FnSet': WHATEVER THE INPUT: true; the input reads as it did. -/
def fnSetSpec : ChangeSpec := { name := "fnSet", fn := fun _ => fun
  | [d1, d2] => { results := [.lit (.bool true)], args := [d1, d2] }
  | _ => none }
def fnSetRow : OpenClaim := { program := "ytfkgljohmgeocaa", sum := "5dedfa41e54d08637b0b6a5afa56a96f444fc7d53fbf7aa67b09981d2b512818", func := "loop.example/pub-setsofbits/laws.FnSet", spec := "fnSet", unfollowed := true, recurses := true, apart := false }
def FnSetSaid : Prop := fnSetRow.holds Try.pinned (OpenSpec.ofChange fnSetSpec)

/-- ITS FALSE NEIGHBOUR: 'it returns false'. Refute it at one input. -/
def fnSetWrong : ChangeSpec := { name := "fnSet", fn := fun _ => fun
  | [d1, d2] => { results := [.lit (.bool false)], args := [d1, d2] }
  | _ => none }
def FnSetWrongFalsely : Prop := fnSetRow.holds Try.pinned (OpenSpec.ofChange fnSetWrong)

/-- 'laws.FnSetBitsetFrom': WHATEVER THE INPUT: true; the input reads as it did. -/
def fnSetBitsetFromSpec : ChangeSpec := { name := "fnSetBitsetFrom", fn := fun _ => fun
  | [d1, d2] => { results := [.lit (.bool true)], args := [d1, d2] }
  | _ => none }
def fnSetBitsetFromRow : OpenClaim := { program := "ytfkgljohmgeocaa", sum := "5dedfa41e54d08637b0b6a5afa56a96f444fc7d53fbf7aa67b09981d2b512818", func := "loop.example/pub-setsofbits/laws.FnSetBitsetFrom", spec := "fnSetBitsetFrom", unfollowed := true, recurses := true, apart := false }
def FnSetBitsetFromSaid : Prop := fnSetBitsetFromRow.holds Try.pinned (OpenSpec.ofChange fnSetBitsetFromSpec)

/-- ITS FALSE NEIGHBOUR: 'it returns false'. Refute it at one input. -/
def fnSetBitsetFromWrong : ChangeSpec := { name := "fnSetBitsetFrom", fn := fun _ => fun
  | [d1, d2] => { results := [.lit (.bool false)], args := [d1, d2] }
  | _ => none }
def FnSetBitsetFromWrongFalsely : Prop := fnSetBitsetFromRow.holds Try.pinned (OpenSpec.ofChange fnSetBitsetFromWrong)

/-- 'laws.FnClear': WHATEVER THE INPUT: true; the input reads as it did. -/
def fnClearSpec : ChangeSpec := { name := "fnClear", fn := fun _ => fun
  | [d1, d2] => { results := [.lit (.bool true)], args := [d1, d2] }
  | _ => none }
def fnClearRow : OpenClaim := { program := "ytfkgljohmgeocaa", sum := "5dedfa41e54d08637b0b6a5afa56a96f444fc7d53fbf7aa67b09981d2b512818", func := "loop.example/pub-setsofbits/laws.FnClear", spec := "fnClear", unfollowed := true, recurses := true, apart := false }
def FnClearSaid : Prop := fnClearRow.holds Try.pinned (OpenSpec.ofChange fnClearSpec)

/-- ITS FALSE NEIGHBOUR: 'it returns false'. Refute it at one input. -/
def fnClearWrong : ChangeSpec := { name := "fnClear", fn := fun _ => fun
  | [d1, d2] => { results := [.lit (.bool false)], args := [d1, d2] }
  | _ => none }
def FnClearWrongFalsely : Prop := fnClearRow.holds Try.pinned (OpenSpec.ofChange fnClearWrong)

/-- 'laws.FnFlip': WHATEVER THE INPUT: true; the input reads as it did. -/
def fnFlipSpec : ChangeSpec := { name := "fnFlip", fn := fun _ => fun
  | [d1, d2] => { results := [.lit (.bool true)], args := [d1, d2] }
  | _ => none }
def fnFlipRow : OpenClaim := { program := "ytfkgljohmgeocaa", sum := "5dedfa41e54d08637b0b6a5afa56a96f444fc7d53fbf7aa67b09981d2b512818", func := "loop.example/pub-setsofbits/laws.FnFlip", spec := "fnFlip", unfollowed := true, recurses := true, apart := false }
def FnFlipSaid : Prop := fnFlipRow.holds Try.pinned (OpenSpec.ofChange fnFlipSpec)

/-- ITS FALSE NEIGHBOUR: 'it returns false'. Refute it at one input. -/
def fnFlipWrong : ChangeSpec := { name := "fnFlip", fn := fun _ => fun
  | [d1, d2] => { results := [.lit (.bool false)], args := [d1, d2] }
  | _ => none }
def FnFlipWrongFalsely : Prop := fnFlipRow.holds Try.pinned (OpenSpec.ofChange fnFlipWrong)

/-- 'laws.FnFlipTwice': WHATEVER THE INPUT: true; the input reads as it did. -/
def fnFlipTwiceSpec : ChangeSpec := { name := "fnFlipTwice", fn := fun _ => fun
  | [d1, d2] => { results := [.lit (.bool true)], args := [d1, d2] }
  | _ => none }
def fnFlipTwiceRow : OpenClaim := { program := "ytfkgljohmgeocaa", sum := "5dedfa41e54d08637b0b6a5afa56a96f444fc7d53fbf7aa67b09981d2b512818", func := "loop.example/pub-setsofbits/laws.FnFlipTwice", spec := "fnFlipTwice", apart := false }
def FnFlipTwiceSaid : Prop := fnFlipTwiceRow.holds Try.pinned (OpenSpec.ofChange fnFlipTwiceSpec)

/-- ITS FALSE NEIGHBOUR: 'it returns false'. Refute it at one input. -/
def fnFlipTwiceWrong : ChangeSpec := { name := "fnFlipTwice", fn := fun _ => fun
  | [d1, d2] => { results := [.lit (.bool false)], args := [d1, d2] }
  | _ => none }
def FnFlipTwiceWrongFalsely : Prop := fnFlipTwiceRow.holds Try.pinned (OpenSpec.ofChange fnFlipTwiceWrong)

/-- 'laws.FnClearAll': WHATEVER THE INPUT: true; the input reads as it did. -/
def fnClearAllSpec : ChangeSpec := { name := "fnClearAll", fn := fun _ => fun
  | [d] => { results := [.lit (.bool true)], args := [d] }
  | _ => none }
def fnClearAllRow : OpenClaim := { program := "ytfkgljohmgeocaa", sum := "5dedfa41e54d08637b0b6a5afa56a96f444fc7d53fbf7aa67b09981d2b512818", func := "loop.example/pub-setsofbits/laws.FnClearAll", spec := "fnClearAll", unfollowed := true, recurses := true, apart := false }
def FnClearAllSaid : Prop := fnClearAllRow.holds Try.pinned (OpenSpec.ofChange fnClearAllSpec)

/-- ITS FALSE NEIGHBOUR: 'it returns false'. Refute it at one input. -/
def fnClearAllWrong : ChangeSpec := { name := "fnClearAll", fn := fun _ => fun
  | [d] => { results := [.lit (.bool false)], args := [d] }
  | _ => none }
def FnClearAllWrongFalsely : Prop := fnClearAllRow.holds Try.pinned (OpenSpec.ofChange fnClearAllWrong)

/- THE SECOND FORM. 'bulk': how many values and letters a reading holds, each counted each time it is reached (what is shared counts as often as it is met; a slice's spare places count too). A statement '..UptoSaid' is the law's where the arguments, and the package variables that the reading takes, are together of bulk at most 1048576: NARROWER than '..Said'. Prove '..Said' where nothing that the law and all that it calls make is longer than what came in: it says more and counts as full. Else prove '..UptoSaid'. A law counts once. -/
mutual
def uptoBulk {H : Type} : DataW H → Nat
  | .lit (.string bytes) => bytes.length + 1
  | .lit _ => 1
  | .nil => 1
  | .ptr d => uptoBulk d + 1
  | .slice elems spare => uptoBulkAll elems + uptoBulkAll spare + 1
  | .agg parts => uptoBulkAll parts + 1
  | .iface _ d => uptoBulk d + 1
  | .map entries => uptoBulkEntries entries + 1
  | .held _ => 1
def uptoBulkAll {H : Type} : List (DataW H) → Nat
  | [] => 0
  | d :: r => uptoBulk d + uptoBulkAll r
def uptoBulkEntries {H : Type} : List (Lit × DataW H) → Nat
  | [] => 0
  | x :: r => uptoBulkEntry x + uptoBulkEntries r
def uptoBulkEntry {H : Type} : Lit × DataW H → Nat
  | (.string bytes, d) => bytes.length + uptoBulk d + 1
  | (_, d) => uptoBulk d + 1
 end
def uptoSmall : (H : Type) → List (DataW H) → Bool := fun _ ds => decide (uptoBulkAll ds ≤ 1048576)
def OpenSpec.upto (s : _root_.Go.ChangeSpec) : _root_.Go.OpenSpec := { _root_.Go.OpenSpec.ofChange s with cond := some uptoSmall }

/-- 'laws.FnFromWithLength', WHERE WHAT IT READS IS OF BULK AT MOST 1048576: true; the input reads as it did. -/
def fnFromWithLengthUptoRow : OpenClaim := { program := "ytfkgljohmgeocaa", sum := "5dedfa41e54d08637b0b6a5afa56a96f444fc7d53fbf7aa67b09981d2b512818", func := "loop.example/pub-setsofbits/laws.FnFromWithLength", spec := "fnFromWithLength", unfollowed := true, recurses := true, apart := false, narrowed := true }
def FnFromWithLengthUptoSaid : Prop := fnFromWithLengthUptoRow.holds Try.pinned (OpenSpec.upto fnFromWithLengthSpec)

/-- 'laws.FnFrom', WHERE WHAT IT READS IS OF BULK AT MOST 1048576: true; the input reads as it did. -/
def fnFromUptoRow : OpenClaim := { program := "ytfkgljohmgeocaa", sum := "5dedfa41e54d08637b0b6a5afa56a96f444fc7d53fbf7aa67b09981d2b512818", func := "loop.example/pub-setsofbits/laws.FnFrom", spec := "fnFrom", unfollowed := true, recurses := true, apart := false, narrowed := true }
def FnFromUptoSaid : Prop := fnFromUptoRow.holds Try.pinned (OpenSpec.upto fnFromSpec)

/-- 'laws.FnNew', WHERE WHAT IT READS IS OF BULK AT MOST 1048576: true; the input reads as it did. -/
def fnNewUptoRow : OpenClaim := { program := "ytfkgljohmgeocaa", sum := "5dedfa41e54d08637b0b6a5afa56a96f444fc7d53fbf7aa67b09981d2b512818", func := "loop.example/pub-setsofbits/laws.FnNew", spec := "fnNew", unfollowed := true, recurses := true, apart := false, narrowed := true }
def FnNewUptoSaid : Prop := fnNewUptoRow.holds Try.pinned (OpenSpec.upto fnNewSpec)

/-- 'laws.FnWords', WHERE WHAT IT READS IS OF BULK AT MOST 1048576: true; the input reads as it did. -/
def fnWordsUptoRow : OpenClaim := { program := "ytfkgljohmgeocaa", sum := "5dedfa41e54d08637b0b6a5afa56a96f444fc7d53fbf7aa67b09981d2b512818", func := "loop.example/pub-setsofbits/laws.FnWords", spec := "fnWords", unfollowed := true, recurses := true, apart := false, narrowed := true }
def FnWordsUptoSaid : Prop := fnWordsUptoRow.holds Try.pinned (OpenSpec.upto fnWordsSpec)

/-- 'laws.FnTest', WHERE WHAT IT READS IS OF BULK AT MOST 1048576: true; the input reads as it did. -/
def fnTestUptoRow : OpenClaim := { program := "ytfkgljohmgeocaa", sum := "5dedfa41e54d08637b0b6a5afa56a96f444fc7d53fbf7aa67b09981d2b512818", func := "loop.example/pub-setsofbits/laws.FnTest", spec := "fnTest", apart := false, narrowed := true }
def FnTestUptoSaid : Prop := fnTestUptoRow.holds Try.pinned (OpenSpec.upto fnTestSpec)

/-- 'laws.FnWordAt', WHERE WHAT IT READS IS OF BULK AT MOST 1048576: true; the input reads as it did. -/
def fnWordAtUptoRow : OpenClaim := { program := "ytfkgljohmgeocaa", sum := "5dedfa41e54d08637b0b6a5afa56a96f444fc7d53fbf7aa67b09981d2b512818", func := "loop.example/pub-setsofbits/laws.FnWordAt", spec := "fnWordAt", apart := false, narrowed := true }
def FnWordAtUptoSaid : Prop := fnWordAtUptoRow.holds Try.pinned (OpenSpec.upto fnWordAtSpec)

/-- 'laws.FnSet', WHERE WHAT IT READS IS OF BULK AT MOST 1048576: true; the input reads as it did. -/
def fnSetUptoRow : OpenClaim := { program := "ytfkgljohmgeocaa", sum := "5dedfa41e54d08637b0b6a5afa56a96f444fc7d53fbf7aa67b09981d2b512818", func := "loop.example/pub-setsofbits/laws.FnSet", spec := "fnSet", unfollowed := true, recurses := true, apart := false, narrowed := true }
def FnSetUptoSaid : Prop := fnSetUptoRow.holds Try.pinned (OpenSpec.upto fnSetSpec)

/-- 'laws.FnSetBitsetFrom', WHERE WHAT IT READS IS OF BULK AT MOST 1048576: true; the input reads as it did. -/
def fnSetBitsetFromUptoRow : OpenClaim := { program := "ytfkgljohmgeocaa", sum := "5dedfa41e54d08637b0b6a5afa56a96f444fc7d53fbf7aa67b09981d2b512818", func := "loop.example/pub-setsofbits/laws.FnSetBitsetFrom", spec := "fnSetBitsetFrom", unfollowed := true, recurses := true, apart := false, narrowed := true }
def FnSetBitsetFromUptoSaid : Prop := fnSetBitsetFromUptoRow.holds Try.pinned (OpenSpec.upto fnSetBitsetFromSpec)

/-- 'laws.FnClear', WHERE WHAT IT READS IS OF BULK AT MOST 1048576: true; the input reads as it did. -/
def fnClearUptoRow : OpenClaim := { program := "ytfkgljohmgeocaa", sum := "5dedfa41e54d08637b0b6a5afa56a96f444fc7d53fbf7aa67b09981d2b512818", func := "loop.example/pub-setsofbits/laws.FnClear", spec := "fnClear", unfollowed := true, recurses := true, apart := false, narrowed := true }
def FnClearUptoSaid : Prop := fnClearUptoRow.holds Try.pinned (OpenSpec.upto fnClearSpec)

/-- 'laws.FnFlip', WHERE WHAT IT READS IS OF BULK AT MOST 1048576: true; the input reads as it did. -/
def fnFlipUptoRow : OpenClaim := { program := "ytfkgljohmgeocaa", sum := "5dedfa41e54d08637b0b6a5afa56a96f444fc7d53fbf7aa67b09981d2b512818", func := "loop.example/pub-setsofbits/laws.FnFlip", spec := "fnFlip", unfollowed := true, recurses := true, apart := false, narrowed := true }
def FnFlipUptoSaid : Prop := fnFlipUptoRow.holds Try.pinned (OpenSpec.upto fnFlipSpec)

/-- 'laws.FnFlipTwice', WHERE WHAT IT READS IS OF BULK AT MOST 1048576: true; the input reads as it did. -/
def fnFlipTwiceUptoRow : OpenClaim := { program := "ytfkgljohmgeocaa", sum := "5dedfa41e54d08637b0b6a5afa56a96f444fc7d53fbf7aa67b09981d2b512818", func := "loop.example/pub-setsofbits/laws.FnFlipTwice", spec := "fnFlipTwice", apart := false, narrowed := true }
def FnFlipTwiceUptoSaid : Prop := fnFlipTwiceUptoRow.holds Try.pinned (OpenSpec.upto fnFlipTwiceSpec)

/-- 'laws.FnClearAll', WHERE WHAT IT READS IS OF BULK AT MOST 1048576: true; the input reads as it did. -/
def fnClearAllUptoRow : OpenClaim := { program := "ytfkgljohmgeocaa", sum := "5dedfa41e54d08637b0b6a5afa56a96f444fc7d53fbf7aa67b09981d2b512818", func := "loop.example/pub-setsofbits/laws.FnClearAll", spec := "fnClearAll", unfollowed := true, recurses := true, apart := false, narrowed := true }
def FnClearAllUptoSaid : Prop := fnClearAllUptoRow.holds Try.pinned (OpenSpec.upto fnClearAllSpec)

end Rows
end Go.Proofs.Ytfkgljohmgeocaa

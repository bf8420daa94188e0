/-
  No cell of these rows narrows 'for every input' (looked for: loops, veiled, ifaces, maps, wideKeys, modest, calm, conditions, laid).
  DERIVED. THE GIVEN ROWS OF THIS SEAT. 5 by the template 'for every input the law returns true; each argument reads behind the call as it read before'; 0 by the template 'total and deterministic' (their statements: YtpkojfcenhieeaaTotals.lean).
  GIVEN WITH THE SEED: the statements are not yours to turn. If you find one false, say at which input.
  Laid BY PROGRAM, IN A SANDBOX (cutbox-rows.mjs): the forced cells as the released guide's own fill.sh prints them over the translation 53816682f5fc10a9… (all of the seat's roots in one cut). By AI agents, Wed Nov 11 2026. No macro, syntax, notation, axiom, sorry.
-/
import Derived.Test.YtpkojfcenhieeaaChecked
import GoSem.Claim
import GoSem.ClaimJoined
import GoSem.ClaimMapViews
import Derived.JoinedTies
import Derived.KernelRfl
namespace Go.Proofs.Ytpkojfcenhieeaa
/- THE CELL 'sum', in the pinned program and in every row, IS THE sha256 OF THE DUMP (.gsa) THAT YtpkojfcenhieeaaProg.lean LOADS. Nothing in Lean hashes anything: it is a label: what it is worth is what the hold of that sum in a sandbox is worth. -/
noncomputable def Try.pinned : Pinned := { name := "ytpkojfcenhieeaa", sum := "53816682f5fc10a9e8fb3a75593fe6112c716779e71d1d213f80235f59832b20", checked := Try.checked }
namespace Rows
def none {H : Type} : Left H := { results := [], args := [] }

/-- 'laws.FnPreviousSet': WHATEVER THE INPUT: true; the input reads as it did. -/
def fnPreviousSetSpec : ChangeSpec := { name := "fnPreviousSet", fn := fun _ => fun
  | [d1, d2] => { results := [.lit (.bool true)], args := [d1, d2] }
  | _ => none }
def fnPreviousSetRow : OpenClaim := { program := "ytpkojfcenhieeaa", sum := "53816682f5fc10a9e8fb3a75593fe6112c716779e71d1d213f80235f59832b20", func := "loop.example/pub-setsofbits/laws.FnPreviousSet", spec := "fnPreviousSet", apart := false }
def FnPreviousSetSaid : Prop := fnPreviousSetRow.holds Try.pinned (OpenSpec.ofChange fnPreviousSetSpec)

/-- ITS FALSE NEIGHBOUR: 'it returns false'. Refute it at one input. -/
def fnPreviousSetWrong : ChangeSpec := { name := "fnPreviousSet", fn := fun _ => fun
  | [d1, d2] => { results := [.lit (.bool false)], args := [d1, d2] }
  | _ => none }
def FnPreviousSetWrongFalsely : Prop := fnPreviousSetRow.holds Try.pinned (OpenSpec.ofChange fnPreviousSetWrong)

/-- 'laws.FnPreviousClear': WHATEVER THE INPUT: true; the input reads as it did. -/
def fnPreviousClearSpec : ChangeSpec := { name := "fnPreviousClear", fn := fun _ => fun
  | [d1, d2] => { results := [.lit (.bool true)], args := [d1, d2] }
  | _ => none }
def fnPreviousClearRow : OpenClaim := { program := "ytpkojfcenhieeaa", sum := "53816682f5fc10a9e8fb3a75593fe6112c716779e71d1d213f80235f59832b20", func := "loop.example/pub-setsofbits/laws.FnPreviousClear", spec := "fnPreviousClear", apart := false }
def FnPreviousClearSaid : Prop := fnPreviousClearRow.holds Try.pinned (OpenSpec.ofChange fnPreviousClearSpec)

/-- ITS FALSE NEIGHBOUR: 'it returns false'. Refute it at one input. -/
def fnPreviousClearWrong : ChangeSpec := { name := "fnPreviousClear", fn := fun _ => fun
  | [d1, d2] => { results := [.lit (.bool false)], args := [d1, d2] }
  | _ => none }
def FnPreviousClearWrongFalsely : Prop := fnPreviousClearRow.holds Try.pinned (OpenSpec.ofChange fnPreviousClearWrong)

/-- 'laws.FnRank': WHATEVER THE INPUT: true; the input reads as it did. -/
def fnRankSpec : ChangeSpec := { name := "fnRank", fn := fun _ => fun
  | [d1, d2] => { results := [.lit (.bool true)], args := [d1, d2] }
  | _ => none }
def fnRankRow : OpenClaim := { program := "ytpkojfcenhieeaa", sum := "53816682f5fc10a9e8fb3a75593fe6112c716779e71d1d213f80235f59832b20", func := "loop.example/pub-setsofbits/laws.FnRank", spec := "fnRank", apart := false }
def FnRankSaid : Prop := fnRankRow.holds Try.pinned (OpenSpec.ofChange fnRankSpec)

/-- ITS FALSE NEIGHBOUR: 'it returns false'. Refute it at one input. -/
def fnRankWrong : ChangeSpec := { name := "fnRank", fn := fun _ => fun
  | [d1, d2] => { results := [.lit (.bool false)], args := [d1, d2] }
  | _ => none }
def FnRankWrongFalsely : Prop := fnRankRow.holds Try.pinned (OpenSpec.ofChange fnRankWrong)

/-- 'laws.FnSelect': WHATEVER THE INPUT: true; the input reads as it did. -/
def fnSelectSpec : ChangeSpec := { name := "fnSelect", fn := fun _ => fun
  | [d1, d2] => { results := [.lit (.bool true)], args := [d1, d2] }
  | _ => none }
def fnSelectRow : OpenClaim := { program := "ytpkojfcenhieeaa", sum := "53816682f5fc10a9e8fb3a75593fe6112c716779e71d1d213f80235f59832b20", func := "loop.example/pub-setsofbits/laws.FnSelect", spec := "fnSelect", apart := false }
def FnSelectSaid : Prop := fnSelectRow.holds Try.pinned (OpenSpec.ofChange fnSelectSpec)

/-- ITS FALSE NEIGHBOUR: 'it returns false'. Refute it at one input. -/
def fnSelectWrong : ChangeSpec := { name := "fnSelect", fn := fun _ => fun
  | [d1, d2] => { results := [.lit (.bool false)], args := [d1, d2] }
  | _ => none }
def FnSelectWrongFalsely : Prop := fnSelectRow.holds Try.pinned (OpenSpec.ofChange fnSelectWrong)

/-- 'laws.FnRankSelect': WHATEVER THE INPUT: true; the input reads as it did. -/
def fnRankSelectSpec : ChangeSpec := { name := "fnRankSelect", fn := fun _ => fun
  | [d] => { results := [.lit (.bool true)], args := [d] }
  | _ => none }
def fnRankSelectRow : OpenClaim := { program := "ytpkojfcenhieeaa", sum := "53816682f5fc10a9e8fb3a75593fe6112c716779e71d1d213f80235f59832b20", func := "loop.example/pub-setsofbits/laws.FnRankSelect", spec := "fnRankSelect", apart := false }
def FnRankSelectSaid : Prop := fnRankSelectRow.holds Try.pinned (OpenSpec.ofChange fnRankSelectSpec)

/-- ITS FALSE NEIGHBOUR: 'it returns false'. Refute it at one input. -/
def fnRankSelectWrong : ChangeSpec := { name := "fnRankSelect", fn := fun _ => fun
  | [d] => { results := [.lit (.bool false)], args := [d] }
  | _ => none }
def FnRankSelectWrongFalsely : Prop := fnRankSelectRow.holds Try.pinned (OpenSpec.ofChange fnRankSelectWrong)

/- THE SECOND FORM. 'bulk': how many values and letters a reading holds, each counted each time it is reached (what is shared counts as often as it is met; a slice's spare places count too). A statement '..UptoSaid' is the law's where the arguments, and the package variables that the reading takes, are together of bulk at most 1048576: NARROWER than '..Said'. Prove '..Said' where nothing that the law and all that it calls make is longer than what came in: it says more and counts as full. Else prove '..UptoSaid'. A law counts once. -/
mutual
def uptoBulk {H : Type} : DataW H → Nat
  | .lit (.string bytes) => bytes.length + 1
  | .lit _ => 1
  | .nil => 1
  | .ptr d => uptoBulk d + 1
  | .slice elems spare => uptoBulkAll elems + uptoBulkAll spare + 1
  | .agg parts => uptoBulkAll parts + 1
  | .iface _ d => uptoBulk d + 1
  | .map entries => uptoBulkEntries entries + 1
  | .held _ => 1
def uptoBulkAll {H : Type} : List (DataW H) → Nat
  | [] => 0
  | d :: r => uptoBulk d + uptoBulkAll r
def uptoBulkEntries {H : Type} : List (Lit × DataW H) → Nat
  | [] => 0
  | x :: r => uptoBulkEntry x + uptoBulkEntries r
def uptoBulkEntry {H : Type} : Lit × DataW H → Nat
  | (.string bytes, d) => bytes.length + uptoBulk d + 1
  | (_, d) => uptoBulk d + 1
 end
def uptoSmall : (H : Type) → List (DataW H) → Bool := fun _ ds => decide (uptoBulkAll ds ≤ 1048576)
def OpenSpec.upto (s : _root_.Go.ChangeSpec) : _root_.Go.OpenSpec := { _root_.Go.OpenSpec.ofChange s with cond := some uptoSmall }

/-- 'laws.FnPreviousSet', WHERE WHAT IT READS IS OF BULK AT MOST 1048576: true; the input reads as it did. -/
def fnPreviousSetUptoRow : OpenClaim := { program := "ytpkojfcenhieeaa", sum := "53816682f5fc10a9e8fb3a75593fe6112c716779e71d1d213f80235f59832b20", func := "loop.example/pub-setsofbits/laws.FnPreviousSet", spec := "fnPreviousSet", apart := false, narrowed := true }
def FnPreviousSetUptoSaid : Prop := fnPreviousSetUptoRow.holds Try.pinned (OpenSpec.upto fnPreviousSetSpec)

/-- 'laws.FnPreviousClear', WHERE WHAT IT READS IS OF BULK AT MOST 1048576: true; the input reads as it did. -/
def fnPreviousClearUptoRow : OpenClaim := { program := "ytpkojfcenhieeaa", sum := "53816682f5fc10a9e8fb3a75593fe6112c716779e71d1d213f80235f59832b20", func := "loop.example/pub-setsofbits/laws.FnPreviousClear", spec := "fnPreviousClear", apart := false, narrowed := true }
def FnPreviousClearUptoSaid : Prop := fnPreviousClearUptoRow.holds Try.pinned (OpenSpec.upto fnPreviousClearSpec)

/-- 'laws.FnRank', WHERE WHAT IT READS IS OF BULK AT MOST 1048576: true; the input reads as it did. -/
def fnRankUptoRow : OpenClaim := { program := "ytpkojfcenhieeaa", sum := "53816682f5fc10a9e8fb3a75593fe6112c716779e71d1d213f80235f59832b20", func := "loop.example/pub-setsofbits/laws.FnRank", spec := "fnRank", apart := false, narrowed := true }
def FnRankUptoSaid : Prop := fnRankUptoRow.holds Try.pinned (OpenSpec.upto fnRankSpec)

/-- 'laws.FnSelect', WHERE WHAT IT READS IS OF BULK AT MOST 1048576: true; the input reads as it did. -/
def fnSelectUptoRow : OpenClaim := { program := "ytpkojfcenhieeaa", sum := "53816682f5fc10a9e8fb3a75593fe6112c716779e71d1d213f80235f59832b20", func := "loop.example/pub-setsofbits/laws.FnSelect", spec := "fnSelect", apart := false, narrowed := true }
def FnSelectUptoSaid : Prop := fnSelectUptoRow.holds Try.pinned (OpenSpec.upto fnSelectSpec)

/-- 'laws.FnRankSelect', WHERE WHAT IT READS IS OF BULK AT MOST 1048576: true; the input reads as it did. -/
def fnRankSelectUptoRow : OpenClaim := { program := "ytpkojfcenhieeaa", sum := "53816682f5fc10a9e8fb3a75593fe6112c716779e71d1d213f80235f59832b20", func := "loop.example/pub-setsofbits/laws.FnRankSelect", spec := "fnRankSelect", apart := false, narrowed := true }
def FnRankSelectUptoSaid : Prop := fnRankSelectUptoRow.holds Try.pinned (OpenSpec.upto fnRankSelectSpec)

end Rows
end Go.Proofs.Ytpkojfcenhieeaa

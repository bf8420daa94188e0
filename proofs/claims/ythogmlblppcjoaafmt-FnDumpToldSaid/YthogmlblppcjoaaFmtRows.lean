/-
  No cell of these rows narrows 'for every input' (looked for: loops, veiled, ifaces, maps, wideKeys, modest, calm, conditions, laid).
  DERIVED. THE GIVEN ROWS OF THIS SEAT. 1 by the template 'for every input the law returns true; each argument reads behind the call as it read before'; 0 by the template 'total and deterministic' (their statements: YthogmlblppcjoaaFmtTotals.lean).
  GIVEN WITH THE SEED: the statements are not yours to turn. If you find one false, say at which input.
  Laid BY PROGRAM, IN A SANDBOX (cutbox-rows.mjs): the forced cells as the released guide's own fill.sh prints them over the translation 0f0e1c144674e2ad… (all of the seat's roots in one cut). By AI agents, Wed Nov 11 2026. No macro, syntax, notation, axiom, sorry.
-/
import Derived.Test.YthogmlblppcjoaaFmtChecked
import GoSem.Claim
import GoSem.ClaimJoined
import GoSem.ClaimMapViews
import Derived.JoinedTies
import Derived.KernelRfl
namespace Go.Proofs.YthogmlblppcjoaaFmt
/- THE CELL 'sum', in the pinned program and in every row, IS THE sha256 OF THE DUMP (.gsa) THAT YthogmlblppcjoaaFmtProg.lean LOADS. Nothing in Lean hashes anything: it is a label: what it is worth is what the hold of that sum in a sandbox is worth. -/
noncomputable def Tryf.pinned : Pinned := { name := "ythogmlblppcjoaafmt", sum := "0f0e1c144674e2ad0d3d0fc090ef18eaee798d9dde609615c9e1181542f10b0c", checked := Tryf.checked }
namespace Rows
def none {H : Type} : Left H := { results := [], args := [] }

/-- 'laws.FnDump': WHATEVER THE INPUT: true; the input reads as it did. -/
def fnDumpSpec : ChangeSpec := { name := "fnDump", fn := fun _ => fun
  | [d] => { results := [.lit (.bool true)], args := [d] }
  | _ => none }
def fnDumpRow : OpenClaim := { program := "ythogmlblppcjoaafmt", sum := "0f0e1c144674e2ad0d3d0fc090ef18eaee798d9dde609615c9e1181542f10b0c", func := "loop.example/pub-setsofbits/laws.FnDump", spec := "fnDump", stops := ["fmt.Sprintf"], inPlace := ["fmt.Fprintf", "fmt.Sprintf"], unfollowed := true, recurses := true, apart := false }
/-- NO THEOREM (fmt's text is open here; it may be false): for the released tool's asking of the row's closed facts alone. THE STATEMENT IS 'FnDumpToldSaid' (YthogmlblppcjoaaFmtCards.lean). -/
def FnDumpFormAsk : Prop := fnDumpRow.holds Tryf.pinned (OpenSpec.ofChange fnDumpSpec)

/-- ITS FALSE NEIGHBOUR: 'it returns false'. Refute it at one input. -/
def fnDumpWrong : ChangeSpec := { name := "fnDump", fn := fun _ => fun
  | [d] => { results := [.lit (.bool false)], args := [d] }
  | _ => none }
def FnDumpWrongFormAsk : Prop := fnDumpRow.holds Tryf.pinned (OpenSpec.ofChange fnDumpWrong)

end Rows
end Go.Proofs.YthogmlblppcjoaaFmt

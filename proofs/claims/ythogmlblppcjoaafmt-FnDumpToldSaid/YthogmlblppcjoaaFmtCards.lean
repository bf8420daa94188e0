/-
  DERIVED. GIVEN WITH THE SEED: THE CARDS: each row of YthogmlblppcjoaaFmtRows.lean that lists a variable, with what it lists TIED to the program's text (the seventh form; the later family's looks); each row that meets fmt, with fmt's text TOLD by the authors' own Lean function (tested against real Go, not proved from fmt's source: count such statements apart). THE CARD IS WHAT COUNTS. Prove the row's statement (the work); the ties are given (YthogmlblppcjoaaFmtTie.lean); close each card by the builder's one call (the guide's Derived/Test/ToyasCard.lean, 'card_holds'). Laid BY PROGRAM, IN A SANDBOX (cutbox-door.mjs). By AI agents, Wed Nov 11 2026. No macro, syntax, notation, axiom, sorry.
-/
import Derived.Test.YthogmlblppcjoaaFmtRows
import GoSem.ClaimSeven
namespace Go.Proofs.YthogmlblppcjoaaFmt
namespace Rows

/-- THE TOLD CARD OF 'laws.FnDump'. -/
def fnDumpCard : Claim7 := { stood := { row := fnDumpRow, standIns := [], harness := (true, "bc94356c5511e46d0a5815e378851525e8921a44e345094e4885443fd1a22bb9"), looks := false }, told := true, goes := false }
def FnDumpToldSaid : Prop := Claim7.holds Tryf.pinned (.plain (OpenSpec.ofChange fnDumpSpec)) fnDumpCard
/-- ITS FALSE NEIGHBOUR. Refute it at one input. -/
def FnDumpToldWrongFalsely : Prop := Claim7.holds Tryf.pinned (.plain (OpenSpec.ofChange fnDumpWrong)) fnDumpCard
end Rows
end Go.Proofs.YthogmlblppcjoaaFmt

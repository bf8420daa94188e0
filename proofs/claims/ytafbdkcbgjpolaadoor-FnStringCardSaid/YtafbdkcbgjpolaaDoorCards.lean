/-
  DERIVED. GIVEN WITH THE SEED: THE CARDS: each row of YtafbdkcbgjpolaaDoorRows.lean that lists a variable, with what it lists TIED to the program's text (the seventh form; the later family's looks); each row that meets fmt, with fmt's text TOLD by the authors' own Lean function (tested against real Go, not proved from fmt's source: count such statements apart). THE CARD IS WHAT COUNTS. Prove the row's statement (the work); the ties are given (YtafbdkcbgjpolaaDoorTie.lean); close each card by the builder's one call (the guide's Derived/Test/ToyasCard.lean, 'card_holds'). Laid BY PROGRAM, IN A SANDBOX (cutbox-door.mjs). By AI agents, Wed Nov 11 2026. No macro, syntax, notation, axiom, sorry.
-/
import Derived.Test.YtafbdkcbgjpolaaDoorRows
import GoSem.ClaimSeven
namespace Go.Proofs.YtafbdkcbgjpolaaDoor
namespace Rows

/-- THE TIED CARD OF 'laws.FnNextSet'. -/
def fnNextSetCard : Claim7 := { stood := { row := fnNextSetRow, standIns := [], harness := (true, "071c253dde6df62798ad3f12a1a7cac913dd6821ae4f6b8b9b17d7da068a5a9d"), looks := false }, kinds := [], alts := [], laidByText := true, laidKinds := [.data], laidTests := true, laidLooks := .later }
def FnNextSetCardSaid : Prop := Claim7.holds Tryd.pinned (.plain (OpenSpec.ofChange fnNextSetSpec)) fnNextSetCard

/-- THE TIED CARD OF 'laws.FnNextClear'. -/
def fnNextClearCard : Claim7 := { stood := { row := fnNextClearRow, standIns := [], harness := (true, "071c253dde6df62798ad3f12a1a7cac913dd6821ae4f6b8b9b17d7da068a5a9d"), looks := false }, kinds := [], alts := [], laidByText := true, laidKinds := [.data], laidTests := true, laidLooks := .later }
def FnNextClearCardSaid : Prop := Claim7.holds Tryd.pinned (.plain (OpenSpec.ofChange fnNextClearSpec)) fnNextClearCard

/-- THE TIED CARD OF 'laws.FnNextAll'. -/
def fnNextAllCard : Claim7 := { stood := { row := fnNextAllRow, standIns := [], harness := (true, "071c253dde6df62798ad3f12a1a7cac913dd6821ae4f6b8b9b17d7da068a5a9d"), looks := false }, kinds := [], alts := [], laidByText := true, laidKinds := [.data], laidTests := true, laidLooks := .later }
def FnNextAllCardSaid : Prop := Claim7.holds Tryd.pinned (.plain (OpenSpec.ofChange fnNextAllSpec)) fnNextAllCard

/-- THE TIED CARD OF 'laws.FnNextMany'. -/
def fnNextManyCard : Claim7 := { stood := { row := fnNextManyRow, standIns := [], harness := (true, "071c253dde6df62798ad3f12a1a7cac913dd6821ae4f6b8b9b17d7da068a5a9d"), looks := false }, kinds := [], alts := [], laidByText := true, laidKinds := [.data], laidTests := true, laidLooks := .later }
def FnNextManyCardSaid : Prop := Claim7.holds Tryd.pinned (.plain (OpenSpec.ofChange fnNextManySpec)) fnNextManyCard

/-- THE TIED CARD OF 'laws.FnAppendTo'. -/
def fnAppendToCard : Claim7 := { stood := { row := fnAppendToRow, standIns := [], harness := (true, "071c253dde6df62798ad3f12a1a7cac913dd6821ae4f6b8b9b17d7da068a5a9d"), looks := false }, kinds := [], alts := [], laidByText := true, laidKinds := [.data], laidTests := true, laidLooks := .later }
def FnAppendToCardSaid : Prop := Claim7.holds Tryd.pinned (.plain (OpenSpec.ofChange fnAppendToSpec)) fnAppendToCard

/-- THE TIED CARD OF 'laws.FnAsSlice'. -/
def fnAsSliceCard : Claim7 := { stood := { row := fnAsSliceRow, standIns := [], harness := (true, "071c253dde6df62798ad3f12a1a7cac913dd6821ae4f6b8b9b17d7da068a5a9d"), looks := false }, kinds := [], alts := [], laidByText := true, laidKinds := [.data], laidTests := true, laidLooks := .later }
def FnAsSliceCardSaid : Prop := Claim7.holds Tryd.pinned (.plain (OpenSpec.ofChange fnAsSliceSpec)) fnAsSliceCard

/-- THE TIED CARD OF 'laws.FnEachSet'. -/
def fnEachSetCard : Claim7 := { stood := { row := fnEachSetRow, standIns := [], harness := (true, "071c253dde6df62798ad3f12a1a7cac913dd6821ae4f6b8b9b17d7da068a5a9d"), looks := false }, kinds := [], alts := [], laidByText := true, laidKinds := [.data], laidTests := true, laidLooks := .later }
def FnEachSetCardSaid : Prop := Claim7.holds Tryd.pinned (.plain (OpenSpec.ofChange fnEachSetSpec)) fnEachSetCard

/-- THE TIED CARD OF 'laws.FnString'. -/
def fnStringCard : Claim7 := { stood := { row := fnStringRow, standIns := [], harness := (true, "071c253dde6df62798ad3f12a1a7cac913dd6821ae4f6b8b9b17d7da068a5a9d"), looks := false }, kinds := [], alts := [], laidByText := true, laidKinds := [.data, .data, .data, .sentinel], laidTests := true, laidLooks := .later }
def FnStringCardSaid : Prop := Claim7.holds Tryd.pinned (.plain (OpenSpec.ofChange fnStringSpec)) fnStringCard

/-- THE SECOND FORM's CARD OF 'laws.FnNextSet'. -/
def fnNextSetUptoCard : Claim7 := { stood := { row := fnNextSetUptoRow, standIns := [], harness := (true, "071c253dde6df62798ad3f12a1a7cac913dd6821ae4f6b8b9b17d7da068a5a9d"), looks := false }, kinds := [], alts := [], laidByText := true, laidKinds := [.data], laidTests := true, laidLooks := .later }
def FnNextSetUptoCardSaid : Prop := Claim7.holds Tryd.pinned (.plain (OpenSpec.upto fnNextSetSpec)) fnNextSetUptoCard

/-- THE SECOND FORM's CARD OF 'laws.FnNextClear'. -/
def fnNextClearUptoCard : Claim7 := { stood := { row := fnNextClearUptoRow, standIns := [], harness := (true, "071c253dde6df62798ad3f12a1a7cac913dd6821ae4f6b8b9b17d7da068a5a9d"), looks := false }, kinds := [], alts := [], laidByText := true, laidKinds := [.data], laidTests := true, laidLooks := .later }
def FnNextClearUptoCardSaid : Prop := Claim7.holds Tryd.pinned (.plain (OpenSpec.upto fnNextClearSpec)) fnNextClearUptoCard

/-- THE SECOND FORM's CARD OF 'laws.FnNextAll'. -/
def fnNextAllUptoCard : Claim7 := { stood := { row := fnNextAllUptoRow, standIns := [], harness := (true, "071c253dde6df62798ad3f12a1a7cac913dd6821ae4f6b8b9b17d7da068a5a9d"), looks := false }, kinds := [], alts := [], laidByText := true, laidKinds := [.data], laidTests := true, laidLooks := .later }
def FnNextAllUptoCardSaid : Prop := Claim7.holds Tryd.pinned (.plain (OpenSpec.upto fnNextAllSpec)) fnNextAllUptoCard

/-- THE SECOND FORM's CARD OF 'laws.FnNextMany'. -/
def fnNextManyUptoCard : Claim7 := { stood := { row := fnNextManyUptoRow, standIns := [], harness := (true, "071c253dde6df62798ad3f12a1a7cac913dd6821ae4f6b8b9b17d7da068a5a9d"), looks := false }, kinds := [], alts := [], laidByText := true, laidKinds := [.data], laidTests := true, laidLooks := .later }
def FnNextManyUptoCardSaid : Prop := Claim7.holds Tryd.pinned (.plain (OpenSpec.upto fnNextManySpec)) fnNextManyUptoCard

/-- THE SECOND FORM's CARD OF 'laws.FnAppendTo'. -/
def fnAppendToUptoCard : Claim7 := { stood := { row := fnAppendToUptoRow, standIns := [], harness := (true, "071c253dde6df62798ad3f12a1a7cac913dd6821ae4f6b8b9b17d7da068a5a9d"), looks := false }, kinds := [], alts := [], laidByText := true, laidKinds := [.data], laidTests := true, laidLooks := .later }
def FnAppendToUptoCardSaid : Prop := Claim7.holds Tryd.pinned (.plain (OpenSpec.upto fnAppendToSpec)) fnAppendToUptoCard

/-- THE SECOND FORM's CARD OF 'laws.FnAsSlice'. -/
def fnAsSliceUptoCard : Claim7 := { stood := { row := fnAsSliceUptoRow, standIns := [], harness := (true, "071c253dde6df62798ad3f12a1a7cac913dd6821ae4f6b8b9b17d7da068a5a9d"), looks := false }, kinds := [], alts := [], laidByText := true, laidKinds := [.data], laidTests := true, laidLooks := .later }
def FnAsSliceUptoCardSaid : Prop := Claim7.holds Tryd.pinned (.plain (OpenSpec.upto fnAsSliceSpec)) fnAsSliceUptoCard

/-- THE SECOND FORM's CARD OF 'laws.FnEachSet'. -/
def fnEachSetUptoCard : Claim7 := { stood := { row := fnEachSetUptoRow, standIns := [], harness := (true, "071c253dde6df62798ad3f12a1a7cac913dd6821ae4f6b8b9b17d7da068a5a9d"), looks := false }, kinds := [], alts := [], laidByText := true, laidKinds := [.data], laidTests := true, laidLooks := .later }
def FnEachSetUptoCardSaid : Prop := Claim7.holds Tryd.pinned (.plain (OpenSpec.upto fnEachSetSpec)) fnEachSetUptoCard

/-- THE SECOND FORM's CARD OF 'laws.FnString'. -/
def fnStringUptoCard : Claim7 := { stood := { row := fnStringUptoRow, standIns := [], harness := (true, "071c253dde6df62798ad3f12a1a7cac913dd6821ae4f6b8b9b17d7da068a5a9d"), looks := false }, kinds := [], alts := [], laidByText := true, laidKinds := [.data, .data, .data, .sentinel], laidTests := true, laidLooks := .later }
def FnStringUptoCardSaid : Prop := Claim7.holds Tryd.pinned (.plain (OpenSpec.upto fnStringSpec)) fnStringUptoCard
end Rows
end Go.Proofs.YtafbdkcbgjpolaaDoor

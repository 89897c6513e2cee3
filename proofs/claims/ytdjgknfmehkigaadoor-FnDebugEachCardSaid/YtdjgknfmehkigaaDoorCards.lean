/-
  DERIVED. GIVEN WITH THE SEED: THE CARDS: each row of YtdjgknfmehkigaaDoorRows.lean that lists a variable, with what it lists TIED to the program's text (the seventh form; the later family's looks); each row that meets fmt, with fmt's text TOLD by the authors' own Lean function (tested against real Go, not proved from fmt's source: count such statements apart). THE CARD IS WHAT COUNTS. Prove the row's statement (the work); the ties are given (YtdjgknfmehkigaaDoorTie.lean); close each card by the builder's one call (the guide's Derived/Test/ToyasCard.lean, 'card_holds'). Laid BY PROGRAM, IN A SANDBOX (cutbox-door.mjs). By AI agents, Wed Nov 11 2026. No macro, syntax, notation, axiom, sorry.
-/
import Derived.Test.YtdjgknfmehkigaaDoorRows
import GoSem.ClaimSeven
namespace Go.Proofs.YtdjgknfmehkigaaDoor
namespace Rows

/-- THE TIED CARD OF 'laws.FnRebindEach'. -/
def fnRebindEachCard : Claim7 := { stood := { row := fnRebindEachRow, standIns := [], harness := (true, "43b21b01fadf261979c8e40f465cdde9198aed7ecbdd52214994366229e52de6"), looks := true }, kinds := [], alts := [], laidByText := true, laidKinds := [.data, .data, .data], laidTests := true, laidLooks := .later }
def FnRebindEachCardSaid : Prop := Claim7.holds Tryd.pinned (.plain (OpenSpec.ofChange fnRebindEachSpec)) fnRebindEachCard

/-- THE TIED CARD OF 'laws.FnRebindOf'. -/
def fnRebindOfCard : Claim7 := { stood := { row := fnRebindOfRow, standIns := [], harness := (true, "43b21b01fadf261979c8e40f465cdde9198aed7ecbdd52214994366229e52de6"), looks := true }, kinds := [], alts := [], laidByText := true, laidKinds := [.data, .data, .data], laidTests := true, laidLooks := .later }
def FnRebindOfCardSaid : Prop := Claim7.holds Tryd.pinned (.plain (OpenSpec.ofChange fnRebindOfSpec)) fnRebindOfCard

/-- THE TIED CARD OF 'laws.FnFormDone'. -/
def fnFormDoneCard : Claim7 := { stood := { row := fnFormDoneRow, standIns := [], harness := (true, "43b21b01fadf261979c8e40f465cdde9198aed7ecbdd52214994366229e52de6"), looks := true }, kinds := [], alts := [], laidByText := true, laidKinds := [.data, .data, .data, .data], laidTests := true, laidLooks := .later }
def FnFormDoneCardSaid : Prop := Claim7.holds Tryd.pinned (.plain (OpenSpec.ofChange fnFormDoneSpec)) fnFormDoneCard

/-- THE TIED CARD OF 'laws.FnFormEach'. -/
def fnFormEachCard : Claim7 := { stood := { row := fnFormEachRow, standIns := [], harness := (true, "43b21b01fadf261979c8e40f465cdde9198aed7ecbdd52214994366229e52de6"), looks := true }, kinds := [], alts := [], laidByText := true, laidKinds := [.data, .data, .data, .data], laidTests := true, laidLooks := .later }
def FnFormEachCardSaid : Prop := Claim7.holds Tryd.pinned (.plain (OpenSpec.ofChange fnFormEachSpec)) fnFormEachCard

/-- THE TIED CARD OF 'laws.FnFormQuotes'. -/
def fnFormQuotesCard : Claim7 := { stood := { row := fnFormQuotesRow, standIns := [], harness := (true, "43b21b01fadf261979c8e40f465cdde9198aed7ecbdd52214994366229e52de6"), looks := true }, kinds := [], alts := [], laidByText := true, laidKinds := [.data, .data, .data, .data], laidTests := true, laidLooks := .later }
def FnFormQuotesCardSaid : Prop := Claim7.holds Tryd.pinned (.plain (OpenSpec.ofChange fnFormQuotesSpec)) fnFormQuotesCard

/-- THE TIED CARD OF 'laws.FnDebugEach'. -/
def fnDebugEachCard : Claim7 := { stood := { row := fnDebugEachRow, standIns := [], harness := (true, "43b21b01fadf261979c8e40f465cdde9198aed7ecbdd52214994366229e52de6"), looks := true }, kinds := [], alts := [], laidByText := true, laidKinds := [.data, .data, .data, .sentinel], laidTests := true, laidLooks := .later }
def FnDebugEachCardSaid : Prop := Claim7.holds Tryd.pinned (.plain (OpenSpec.ofChange fnDebugEachSpec)) fnDebugEachCard

/-- THE TIED CARD OF 'laws.FnDebugMarks'. -/
def fnDebugMarksCard : Claim7 := { stood := { row := fnDebugMarksRow, standIns := [], harness := (true, "43b21b01fadf261979c8e40f465cdde9198aed7ecbdd52214994366229e52de6"), looks := true }, kinds := [], alts := [], laidByText := true, laidKinds := [.data, .data, .data, .sentinel], laidTests := true, laidLooks := .later }
def FnDebugMarksCardSaid : Prop := Claim7.holds Tryd.pinned (.plain (OpenSpec.ofChange fnDebugMarksSpec)) fnDebugMarksCard

/-- THE SECOND FORM's CARD OF 'laws.FnRebindEach'. -/
def fnRebindEachUptoCard : Claim7 := { stood := { row := fnRebindEachUptoRow, standIns := [], harness := (true, "43b21b01fadf261979c8e40f465cdde9198aed7ecbdd52214994366229e52de6"), looks := true }, kinds := [], alts := [], laidByText := true, laidKinds := [.data, .data, .data], laidTests := true, laidLooks := .later }
def FnRebindEachUptoCardSaid : Prop := Claim7.holds Tryd.pinned (.plain (OpenSpec.upto fnRebindEachSpec)) fnRebindEachUptoCard

/-- THE SECOND FORM's CARD OF 'laws.FnRebindOf'. -/
def fnRebindOfUptoCard : Claim7 := { stood := { row := fnRebindOfUptoRow, standIns := [], harness := (true, "43b21b01fadf261979c8e40f465cdde9198aed7ecbdd52214994366229e52de6"), looks := true }, kinds := [], alts := [], laidByText := true, laidKinds := [.data, .data, .data], laidTests := true, laidLooks := .later }
def FnRebindOfUptoCardSaid : Prop := Claim7.holds Tryd.pinned (.plain (OpenSpec.upto fnRebindOfSpec)) fnRebindOfUptoCard

/-- THE SECOND FORM's CARD OF 'laws.FnFormDone'. -/
def fnFormDoneUptoCard : Claim7 := { stood := { row := fnFormDoneUptoRow, standIns := [], harness := (true, "43b21b01fadf261979c8e40f465cdde9198aed7ecbdd52214994366229e52de6"), looks := true }, kinds := [], alts := [], laidByText := true, laidKinds := [.data, .data, .data, .data], laidTests := true, laidLooks := .later }
def FnFormDoneUptoCardSaid : Prop := Claim7.holds Tryd.pinned (.plain (OpenSpec.upto fnFormDoneSpec)) fnFormDoneUptoCard

/-- THE SECOND FORM's CARD OF 'laws.FnFormEach'. -/
def fnFormEachUptoCard : Claim7 := { stood := { row := fnFormEachUptoRow, standIns := [], harness := (true, "43b21b01fadf261979c8e40f465cdde9198aed7ecbdd52214994366229e52de6"), looks := true }, kinds := [], alts := [], laidByText := true, laidKinds := [.data, .data, .data, .data], laidTests := true, laidLooks := .later }
def FnFormEachUptoCardSaid : Prop := Claim7.holds Tryd.pinned (.plain (OpenSpec.upto fnFormEachSpec)) fnFormEachUptoCard

/-- THE SECOND FORM's CARD OF 'laws.FnFormQuotes'. -/
def fnFormQuotesUptoCard : Claim7 := { stood := { row := fnFormQuotesUptoRow, standIns := [], harness := (true, "43b21b01fadf261979c8e40f465cdde9198aed7ecbdd52214994366229e52de6"), looks := true }, kinds := [], alts := [], laidByText := true, laidKinds := [.data, .data, .data, .data], laidTests := true, laidLooks := .later }
def FnFormQuotesUptoCardSaid : Prop := Claim7.holds Tryd.pinned (.plain (OpenSpec.upto fnFormQuotesSpec)) fnFormQuotesUptoCard

/-- THE SECOND FORM's CARD OF 'laws.FnDebugEach'. -/
def fnDebugEachUptoCard : Claim7 := { stood := { row := fnDebugEachUptoRow, standIns := [], harness := (true, "43b21b01fadf261979c8e40f465cdde9198aed7ecbdd52214994366229e52de6"), looks := true }, kinds := [], alts := [], laidByText := true, laidKinds := [.data, .data, .data, .sentinel], laidTests := true, laidLooks := .later }
def FnDebugEachUptoCardSaid : Prop := Claim7.holds Tryd.pinned (.plain (OpenSpec.upto fnDebugEachSpec)) fnDebugEachUptoCard

/-- THE SECOND FORM's CARD OF 'laws.FnDebugMarks'. -/
def fnDebugMarksUptoCard : Claim7 := { stood := { row := fnDebugMarksUptoRow, standIns := [], harness := (true, "43b21b01fadf261979c8e40f465cdde9198aed7ecbdd52214994366229e52de6"), looks := true }, kinds := [], alts := [], laidByText := true, laidKinds := [.data, .data, .data, .sentinel], laidTests := true, laidLooks := .later }
def FnDebugMarksUptoCardSaid : Prop := Claim7.holds Tryd.pinned (.plain (OpenSpec.upto fnDebugMarksSpec)) fnDebugMarksUptoCard
end Rows
end Go.Proofs.YtdjgknfmehkigaaDoor

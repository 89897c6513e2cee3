/-
  DERIVED. GIVEN WITH THE SEED: THE CARDS: each row of YtpjadgdimkdblaaDoorRows.lean that lists a variable, with what it lists TIED to the program's text (the seventh form; the later family's looks); each row that meets fmt, with fmt's text TOLD by the authors' own Lean function (tested against real Go, not proved from fmt's source: count such statements apart). THE CARD IS WHAT COUNTS. Prove the row's statement (the work); the ties are given (YtpjadgdimkdblaaDoorTie.lean); close each card by the builder's one call (the guide's Derived/Test/ToyasCard.lean, 'card_holds'). Laid BY PROGRAM, IN A SANDBOX (cutbox-door.mjs). By AI agents, Wed Nov 11 2026. No macro, syntax, notation, axiom, sorry.
-/
import Derived.Test.YtpjadgdimkdblaaDoorRows
import GoSem.ClaimSeven
namespace Go.Proofs.YtpjadgdimkdblaaDoor
namespace Rows

/-- THE TIED CARD OF 'laws.FnNameAlone'. -/
def fnNameAloneCard : Claim7 := { stood := { row := fnNameAloneRow, standIns := [], harness := (true, "ff4bd533bd63a82aaa67821de44132420a76b36998cc0ebe6ded42e8b78ea420"), looks := true }, kinds := [], alts := [], laidByText := true, laidKinds := [.data, .data, .data], laidTests := true, laidLooks := .later }
def FnNameAloneCardSaid : Prop := Claim7.holds Tryd.pinned (.plain (OpenSpec.ofChange fnNameAloneSpec)) fnNameAloneCard

/-- THE TIED CARD OF 'laws.FnNameColons'. -/
def fnNameColonsCard : Claim7 := { stood := { row := fnNameColonsRow, standIns := [], harness := (true, "ff4bd533bd63a82aaa67821de44132420a76b36998cc0ebe6ded42e8b78ea420"), looks := true }, kinds := [], alts := [], laidByText := true, laidKinds := [.data, .data, .data], laidTests := true, laidLooks := .later }
def FnNameColonsCardSaid : Prop := Claim7.holds Tryd.pinned (.plain (OpenSpec.ofChange fnNameColonsSpec)) fnNameColonsCard

/-- THE TIED CARD OF 'laws.FnNameTight'. -/
def fnNameTightCard : Claim7 := { stood := { row := fnNameTightRow, standIns := [], harness := (true, "ff4bd533bd63a82aaa67821de44132420a76b36998cc0ebe6ded42e8b78ea420"), looks := true }, kinds := [], alts := [], laidByText := true, laidKinds := [.data, .data, .data], laidTests := true, laidLooks := .later }
def FnNameTightCardSaid : Prop := Claim7.holds Tryd.pinned (.plain (OpenSpec.ofChange fnNameTightSpec)) fnNameTightCard

/-- THE TIED CARD OF 'laws.FnNamedAgain'. -/
def fnNamedAgainCard : Claim7 := { stood := { row := fnNamedAgainRow, standIns := [], harness := (true, "ff4bd533bd63a82aaa67821de44132420a76b36998cc0ebe6ded42e8b78ea420"), looks := true }, kinds := [], alts := [], laidByText := true, laidKinds := [.data, .data, .data, .sentinel], laidTests := true, laidLooks := .later }
def FnNamedAgainCardSaid : Prop := Claim7.holds Tryd.pinned (.plain (OpenSpec.ofChange fnNamedAgainSpec)) fnNamedAgainCard

/-- THE TIED CARD OF 'laws.FnRowsKind'. -/
def fnRowsKindCard : Claim7 := { stood := { row := fnRowsKindRow, standIns := [], harness := (true, "ff4bd533bd63a82aaa67821de44132420a76b36998cc0ebe6ded42e8b78ea420"), looks := true }, kinds := [], alts := [], laidByText := true, laidKinds := [.data, .data, .data, .sentinel], laidTests := true, laidLooks := .later }
def FnRowsKindCardSaid : Prop := Claim7.holds Tryd.pinned (.plain (OpenSpec.ofChange fnRowsKindSpec)) fnRowsKindCard

/-- THE TIED CARD OF 'laws.FnRowsNested'. -/
def fnRowsNestedCard : Claim7 := { stood := { row := fnRowsNestedRow, standIns := [], harness := (true, "ff4bd533bd63a82aaa67821de44132420a76b36998cc0ebe6ded42e8b78ea420"), looks := true }, kinds := [], alts := [], laidByText := true, laidKinds := [.data, .data, .data, .sentinel], laidTests := true, laidLooks := .later }
def FnRowsNestedCardSaid : Prop := Claim7.holds Tryd.pinned (.plain (OpenSpec.ofChange fnRowsNestedSpec)) fnRowsNestedCard

/-- THE TIED CARD OF 'laws.FnRowsWord'. -/
def fnRowsWordCard : Claim7 := { stood := { row := fnRowsWordRow, standIns := [], harness := (true, "ff4bd533bd63a82aaa67821de44132420a76b36998cc0ebe6ded42e8b78ea420"), looks := true }, kinds := [], alts := [], laidByText := true, laidKinds := [.data, .data, .data, .sentinel], laidTests := true, laidLooks := .later }
def FnRowsWordCardSaid : Prop := Claim7.holds Tryd.pinned (.plain (OpenSpec.ofChange fnRowsWordSpec)) fnRowsWordCard

/-- THE TIED CARD OF 'laws.FnNamePlain'. -/
def fnNamePlainCard : Claim7 := { stood := { row := fnNamePlainRow, standIns := [], harness := (true, "ff4bd533bd63a82aaa67821de44132420a76b36998cc0ebe6ded42e8b78ea420"), looks := true }, kinds := [], alts := [], laidByText := true, laidKinds := [.data, .data, .data, .sentinel], laidTests := true, laidLooks := .later }
def FnNamePlainCardSaid : Prop := Claim7.holds Tryd.pinned (.plain (OpenSpec.ofChange fnNamePlainSpec)) fnNamePlainCard

/-- THE TIED CARD OF 'laws.FnNamesToDatabase'. -/
def fnNamesToDatabaseCard : Claim7 := { stood := { row := fnNamesToDatabaseRow, standIns := [], harness := (true, "ff4bd533bd63a82aaa67821de44132420a76b36998cc0ebe6ded42e8b78ea420"), looks := true }, kinds := [], alts := [], laidByText := true, laidKinds := [.data, .data, .data, .sentinel], laidTests := true, laidLooks := .later }
def FnNamesToDatabaseCardSaid : Prop := Claim7.holds Tryd.pinned (.plain (OpenSpec.ofChange fnNamesToDatabaseSpec)) fnNamesToDatabaseCard

/-- THE SECOND FORM's CARD OF 'laws.FnNameAlone'. -/
def fnNameAloneUptoCard : Claim7 := { stood := { row := fnNameAloneUptoRow, standIns := [], harness := (true, "ff4bd533bd63a82aaa67821de44132420a76b36998cc0ebe6ded42e8b78ea420"), looks := true }, kinds := [], alts := [], laidByText := true, laidKinds := [.data, .data, .data], laidTests := true, laidLooks := .later }
def FnNameAloneUptoCardSaid : Prop := Claim7.holds Tryd.pinned (.plain (OpenSpec.upto fnNameAloneSpec)) fnNameAloneUptoCard

/-- THE SECOND FORM's CARD OF 'laws.FnNameColons'. -/
def fnNameColonsUptoCard : Claim7 := { stood := { row := fnNameColonsUptoRow, standIns := [], harness := (true, "ff4bd533bd63a82aaa67821de44132420a76b36998cc0ebe6ded42e8b78ea420"), looks := true }, kinds := [], alts := [], laidByText := true, laidKinds := [.data, .data, .data], laidTests := true, laidLooks := .later }
def FnNameColonsUptoCardSaid : Prop := Claim7.holds Tryd.pinned (.plain (OpenSpec.upto fnNameColonsSpec)) fnNameColonsUptoCard

/-- THE SECOND FORM's CARD OF 'laws.FnNameTight'. -/
def fnNameTightUptoCard : Claim7 := { stood := { row := fnNameTightUptoRow, standIns := [], harness := (true, "ff4bd533bd63a82aaa67821de44132420a76b36998cc0ebe6ded42e8b78ea420"), looks := true }, kinds := [], alts := [], laidByText := true, laidKinds := [.data, .data, .data], laidTests := true, laidLooks := .later }
def FnNameTightUptoCardSaid : Prop := Claim7.holds Tryd.pinned (.plain (OpenSpec.upto fnNameTightSpec)) fnNameTightUptoCard

/-- THE SECOND FORM's CARD OF 'laws.FnNamedAgain'. -/
def fnNamedAgainUptoCard : Claim7 := { stood := { row := fnNamedAgainUptoRow, standIns := [], harness := (true, "ff4bd533bd63a82aaa67821de44132420a76b36998cc0ebe6ded42e8b78ea420"), looks := true }, kinds := [], alts := [], laidByText := true, laidKinds := [.data, .data, .data, .sentinel], laidTests := true, laidLooks := .later }
def FnNamedAgainUptoCardSaid : Prop := Claim7.holds Tryd.pinned (.plain (OpenSpec.upto fnNamedAgainSpec)) fnNamedAgainUptoCard

/-- THE SECOND FORM's CARD OF 'laws.FnRowsKind'. -/
def fnRowsKindUptoCard : Claim7 := { stood := { row := fnRowsKindUptoRow, standIns := [], harness := (true, "ff4bd533bd63a82aaa67821de44132420a76b36998cc0ebe6ded42e8b78ea420"), looks := true }, kinds := [], alts := [], laidByText := true, laidKinds := [.data, .data, .data, .sentinel], laidTests := true, laidLooks := .later }
def FnRowsKindUptoCardSaid : Prop := Claim7.holds Tryd.pinned (.plain (OpenSpec.upto fnRowsKindSpec)) fnRowsKindUptoCard

/-- THE SECOND FORM's CARD OF 'laws.FnRowsNested'. -/
def fnRowsNestedUptoCard : Claim7 := { stood := { row := fnRowsNestedUptoRow, standIns := [], harness := (true, "ff4bd533bd63a82aaa67821de44132420a76b36998cc0ebe6ded42e8b78ea420"), looks := true }, kinds := [], alts := [], laidByText := true, laidKinds := [.data, .data, .data, .sentinel], laidTests := true, laidLooks := .later }
def FnRowsNestedUptoCardSaid : Prop := Claim7.holds Tryd.pinned (.plain (OpenSpec.upto fnRowsNestedSpec)) fnRowsNestedUptoCard

/-- THE SECOND FORM's CARD OF 'laws.FnRowsWord'. -/
def fnRowsWordUptoCard : Claim7 := { stood := { row := fnRowsWordUptoRow, standIns := [], harness := (true, "ff4bd533bd63a82aaa67821de44132420a76b36998cc0ebe6ded42e8b78ea420"), looks := true }, kinds := [], alts := [], laidByText := true, laidKinds := [.data, .data, .data, .sentinel], laidTests := true, laidLooks := .later }
def FnRowsWordUptoCardSaid : Prop := Claim7.holds Tryd.pinned (.plain (OpenSpec.upto fnRowsWordSpec)) fnRowsWordUptoCard

/-- THE SECOND FORM's CARD OF 'laws.FnNamePlain'. -/
def fnNamePlainUptoCard : Claim7 := { stood := { row := fnNamePlainUptoRow, standIns := [], harness := (true, "ff4bd533bd63a82aaa67821de44132420a76b36998cc0ebe6ded42e8b78ea420"), looks := true }, kinds := [], alts := [], laidByText := true, laidKinds := [.data, .data, .data, .sentinel], laidTests := true, laidLooks := .later }
def FnNamePlainUptoCardSaid : Prop := Claim7.holds Tryd.pinned (.plain (OpenSpec.upto fnNamePlainSpec)) fnNamePlainUptoCard

/-- THE SECOND FORM's CARD OF 'laws.FnNamesToDatabase'. -/
def fnNamesToDatabaseUptoCard : Claim7 := { stood := { row := fnNamesToDatabaseUptoRow, standIns := [], harness := (true, "ff4bd533bd63a82aaa67821de44132420a76b36998cc0ebe6ded42e8b78ea420"), looks := true }, kinds := [], alts := [], laidByText := true, laidKinds := [.data, .data, .data, .sentinel], laidTests := true, laidLooks := .later }
def FnNamesToDatabaseUptoCardSaid : Prop := Claim7.holds Tryd.pinned (.plain (OpenSpec.upto fnNamesToDatabaseSpec)) fnNamesToDatabaseUptoCard
end Rows
end Go.Proofs.YtpjadgdimkdblaaDoor

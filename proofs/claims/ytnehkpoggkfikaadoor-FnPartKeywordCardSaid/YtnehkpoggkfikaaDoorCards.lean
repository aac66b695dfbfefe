/-
  DERIVED. GIVEN WITH THE SEED: THE CARDS: each row of YtnehkpoggkfikaaDoorRows.lean that lists a variable, with what it lists TIED to the program's text (the seventh form; the later family's looks); each row that meets fmt, with fmt's text TOLD by the authors' own Lean function (tested against real Go, not proved from fmt's source: count such statements apart). THE CARD IS WHAT COUNTS. Prove the row's statement (the work); the ties are given (YtnehkpoggkfikaaDoorTie.lean); close each card by the builder's one call (the guide's Derived/Test/ToyasCard.lean, 'card_holds'). Laid BY PROGRAM, IN A SANDBOX (cutbox-door.mjs). By AI agents, Wed Nov 11 2026. No macro, syntax, notation, axiom, sorry.
-/
import Derived.Test.YtnehkpoggkfikaaDoorRows
import GoSem.ClaimSeven
namespace Go.Proofs.YtnehkpoggkfikaaDoor
namespace Rows

/-- THE TIED CARD OF 'laws.FnPartRaw'. -/
def fnPartRawCard : Claim7 := { stood := { row := fnPartRawRow, standIns := [], harness := (true, "b5128e20423392c1a776c064341af5e2b37ac648f673b3f601849a425a383b9c"), looks := true }, kinds := [], alts := [], laidByText := true, laidKinds := [.data, .sentinel, .sentinel, .pinned], laidTests := true, laidLooks := .later }
def FnPartRawCardSaid : Prop := Claim7.holds Tryd.pinned (.plain (OpenSpec.ofChange fnPartRawSpec)) fnPartRawCard

/-- THE TIED CARD OF 'laws.FnPartRawOpen'. -/
def fnPartRawOpenCard : Claim7 := { stood := { row := fnPartRawOpenRow, standIns := [], harness := (true, "b5128e20423392c1a776c064341af5e2b37ac648f673b3f601849a425a383b9c"), looks := true }, kinds := [], alts := [], laidByText := true, laidKinds := [.data, .sentinel, .sentinel, .pinned], laidTests := true, laidLooks := .later }
def FnPartRawOpenCardSaid : Prop := Claim7.holds Tryd.pinned (.plain (OpenSpec.ofChange fnPartRawOpenSpec)) fnPartRawOpenCard

/-- THE TIED CARD OF 'laws.FnPartLineRemark'. -/
def fnPartLineRemarkCard : Claim7 := { stood := { row := fnPartLineRemarkRow, standIns := [], harness := (true, "b5128e20423392c1a776c064341af5e2b37ac648f673b3f601849a425a383b9c"), looks := true }, kinds := [], alts := [], laidByText := true, laidKinds := [.data, .sentinel, .sentinel, .pinned], laidTests := true, laidLooks := .later }
def FnPartLineRemarkCardSaid : Prop := Claim7.holds Tryd.pinned (.plain (OpenSpec.ofChange fnPartLineRemarkSpec)) fnPartLineRemarkCard

/-- THE TIED CARD OF 'laws.FnPartRemark'. -/
def fnPartRemarkCard : Claim7 := { stood := { row := fnPartRemarkRow, standIns := [], harness := (true, "b5128e20423392c1a776c064341af5e2b37ac648f673b3f601849a425a383b9c"), looks := true }, kinds := [], alts := [], laidByText := true, laidKinds := [.data, .sentinel, .sentinel, .pinned], laidTests := true, laidLooks := .later }
def FnPartRemarkCardSaid : Prop := Claim7.holds Tryd.pinned (.plain (OpenSpec.ofChange fnPartRemarkSpec)) fnPartRemarkCard

/-- THE TIED CARD OF 'laws.FnPartEscape'. -/
def fnPartEscapeCard : Claim7 := { stood := { row := fnPartEscapeRow, standIns := [], harness := (true, "b5128e20423392c1a776c064341af5e2b37ac648f673b3f601849a425a383b9c"), looks := true }, kinds := [], alts := [], laidByText := true, laidKinds := [.data, .sentinel, .sentinel, .pinned], laidTests := true, laidLooks := .later }
def FnPartEscapeCardSaid : Prop := Claim7.holds Tryd.pinned (.plain (OpenSpec.ofChange fnPartEscapeSpec)) fnPartEscapeCard

/-- THE TIED CARD OF 'laws.FnPartString'. -/
def fnPartStringCard : Claim7 := { stood := { row := fnPartStringRow, standIns := [], harness := (true, "b5128e20423392c1a776c064341af5e2b37ac648f673b3f601849a425a383b9c"), looks := true }, kinds := [], alts := [], laidByText := true, laidKinds := [.data, .sentinel, .sentinel, .pinned], laidTests := true, laidLooks := .later }
def FnPartStringCardSaid : Prop := Claim7.holds Tryd.pinned (.plain (OpenSpec.ofChange fnPartStringSpec)) fnPartStringCard

/-- THE TIED CARD OF 'laws.FnPartStringOpen'. -/
def fnPartStringOpenCard : Claim7 := { stood := { row := fnPartStringOpenRow, standIns := [], harness := (true, "b5128e20423392c1a776c064341af5e2b37ac648f673b3f601849a425a383b9c"), looks := true }, kinds := [], alts := [], laidByText := true, laidKinds := [.data, .sentinel, .sentinel, .pinned], laidTests := true, laidLooks := .later }
def FnPartStringOpenCardSaid : Prop := Claim7.holds Tryd.pinned (.plain (OpenSpec.ofChange fnPartStringOpenSpec)) fnPartStringOpenCard

/-- THE TIED CARD OF 'laws.FnPartRune'. -/
def fnPartRuneCard : Claim7 := { stood := { row := fnPartRuneRow, standIns := [], harness := (true, "b5128e20423392c1a776c064341af5e2b37ac648f673b3f601849a425a383b9c"), looks := true }, kinds := [], alts := [], laidByText := true, laidKinds := [.data, .sentinel, .sentinel, .pinned], laidTests := true, laidLooks := .later }
def FnPartRuneCardSaid : Prop := Claim7.holds Tryd.pinned (.plain (OpenSpec.ofChange fnPartRuneSpec)) fnPartRuneCard

/-- THE TIED CARD OF 'laws.FnPartRuneOpen'. -/
def fnPartRuneOpenCard : Claim7 := { stood := { row := fnPartRuneOpenRow, standIns := [], harness := (true, "b5128e20423392c1a776c064341af5e2b37ac648f673b3f601849a425a383b9c"), looks := true }, kinds := [], alts := [], laidByText := true, laidKinds := [.data, .sentinel, .sentinel, .pinned], laidTests := true, laidLooks := .later }
def FnPartRuneOpenCardSaid : Prop := Claim7.holds Tryd.pinned (.plain (OpenSpec.ofChange fnPartRuneOpenSpec)) fnPartRuneOpenCard

/-- THE TIED CARD OF 'laws.FnPartBadNumber'. -/
def fnPartBadNumberCard : Claim7 := { stood := { row := fnPartBadNumberRow, standIns := [], harness := (true, "b5128e20423392c1a776c064341af5e2b37ac648f673b3f601849a425a383b9c"), looks := true }, kinds := [], alts := [], laidByText := true, laidKinds := [.data, .sentinel, .sentinel, .pinned], laidTests := true, laidLooks := .later }
def FnPartBadNumberCardSaid : Prop := Claim7.holds Tryd.pinned (.plain (OpenSpec.ofChange fnPartBadNumberSpec)) fnPartBadNumberCard

/-- THE TIED CARD OF 'laws.FnPartNumber'. -/
def fnPartNumberCard : Claim7 := { stood := { row := fnPartNumberRow, standIns := [], harness := (true, "b5128e20423392c1a776c064341af5e2b37ac648f673b3f601849a425a383b9c"), looks := true }, kinds := [], alts := [], laidByText := true, laidKinds := [.data, .sentinel, .sentinel, .pinned], laidTests := true, laidLooks := .later }
def FnPartNumberCardSaid : Prop := Claim7.holds Tryd.pinned (.plain (OpenSpec.ofChange fnPartNumberSpec)) fnPartNumberCard

/-- THE TIED CARD OF 'laws.FnPartPoint'. -/
def fnPartPointCard : Claim7 := { stood := { row := fnPartPointRow, standIns := [], harness := (true, "b5128e20423392c1a776c064341af5e2b37ac648f673b3f601849a425a383b9c"), looks := true }, kinds := [], alts := [], laidByText := true, laidKinds := [.data, .sentinel, .sentinel, .pinned], laidTests := true, laidLooks := .later }
def FnPartPointCardSaid : Prop := Claim7.holds Tryd.pinned (.plain (OpenSpec.ofChange fnPartPointSpec)) fnPartPointCard

/-- THE TIED CARD OF 'laws.FnPartKeyword'. -/
def fnPartKeywordCard : Claim7 := { stood := { row := fnPartKeywordRow, standIns := [], harness := (true, "b5128e20423392c1a776c064341af5e2b37ac648f673b3f601849a425a383b9c"), looks := true }, kinds := [], alts := [], laidByText := true, laidKinds := [.data, .data, .data, .data, .sentinel, .sentinel, .data, .data, .pinned, .pinned, .pinned], laidTests := true, laidLooks := .later }
def FnPartKeywordCardSaid : Prop := Claim7.holds Tryd.pinned (.plain (OpenSpec.ofChange fnPartKeywordSpec)) fnPartKeywordCard

/-- THE TIED CARD OF 'laws.FnPartName'. -/
def fnPartNameCard : Claim7 := { stood := { row := fnPartNameRow, standIns := [], harness := (true, "b5128e20423392c1a776c064341af5e2b37ac648f673b3f601849a425a383b9c"), looks := true }, kinds := [], alts := [], laidByText := true, laidKinds := [.data, .data, .data, .data, .sentinel, .sentinel, .data, .data, .pinned, .pinned, .pinned], laidTests := true, laidLooks := .later }
def FnPartNameCardSaid : Prop := Claim7.holds Tryd.pinned (.plain (OpenSpec.ofChange fnPartNameSpec)) fnPartNameCard

/-- THE SECOND FORM's CARD OF 'laws.FnPartRaw'. -/
def fnPartRawUptoCard : Claim7 := { stood := { row := fnPartRawUptoRow, standIns := [], harness := (true, "b5128e20423392c1a776c064341af5e2b37ac648f673b3f601849a425a383b9c"), looks := true }, kinds := [], alts := [], laidByText := true, laidKinds := [.data, .sentinel, .sentinel, .pinned], laidTests := true, laidLooks := .later }
def FnPartRawUptoCardSaid : Prop := Claim7.holds Tryd.pinned (.plain (OpenSpec.upto fnPartRawSpec)) fnPartRawUptoCard

/-- THE SECOND FORM's CARD OF 'laws.FnPartRawOpen'. -/
def fnPartRawOpenUptoCard : Claim7 := { stood := { row := fnPartRawOpenUptoRow, standIns := [], harness := (true, "b5128e20423392c1a776c064341af5e2b37ac648f673b3f601849a425a383b9c"), looks := true }, kinds := [], alts := [], laidByText := true, laidKinds := [.data, .sentinel, .sentinel, .pinned], laidTests := true, laidLooks := .later }
def FnPartRawOpenUptoCardSaid : Prop := Claim7.holds Tryd.pinned (.plain (OpenSpec.upto fnPartRawOpenSpec)) fnPartRawOpenUptoCard

/-- THE SECOND FORM's CARD OF 'laws.FnPartLineRemark'. -/
def fnPartLineRemarkUptoCard : Claim7 := { stood := { row := fnPartLineRemarkUptoRow, standIns := [], harness := (true, "b5128e20423392c1a776c064341af5e2b37ac648f673b3f601849a425a383b9c"), looks := true }, kinds := [], alts := [], laidByText := true, laidKinds := [.data, .sentinel, .sentinel, .pinned], laidTests := true, laidLooks := .later }
def FnPartLineRemarkUptoCardSaid : Prop := Claim7.holds Tryd.pinned (.plain (OpenSpec.upto fnPartLineRemarkSpec)) fnPartLineRemarkUptoCard

/-- THE SECOND FORM's CARD OF 'laws.FnPartRemark'. -/
def fnPartRemarkUptoCard : Claim7 := { stood := { row := fnPartRemarkUptoRow, standIns := [], harness := (true, "b5128e20423392c1a776c064341af5e2b37ac648f673b3f601849a425a383b9c"), looks := true }, kinds := [], alts := [], laidByText := true, laidKinds := [.data, .sentinel, .sentinel, .pinned], laidTests := true, laidLooks := .later }
def FnPartRemarkUptoCardSaid : Prop := Claim7.holds Tryd.pinned (.plain (OpenSpec.upto fnPartRemarkSpec)) fnPartRemarkUptoCard

/-- THE SECOND FORM's CARD OF 'laws.FnPartEscape'. -/
def fnPartEscapeUptoCard : Claim7 := { stood := { row := fnPartEscapeUptoRow, standIns := [], harness := (true, "b5128e20423392c1a776c064341af5e2b37ac648f673b3f601849a425a383b9c"), looks := true }, kinds := [], alts := [], laidByText := true, laidKinds := [.data, .sentinel, .sentinel, .pinned], laidTests := true, laidLooks := .later }
def FnPartEscapeUptoCardSaid : Prop := Claim7.holds Tryd.pinned (.plain (OpenSpec.upto fnPartEscapeSpec)) fnPartEscapeUptoCard

/-- THE SECOND FORM's CARD OF 'laws.FnPartString'. -/
def fnPartStringUptoCard : Claim7 := { stood := { row := fnPartStringUptoRow, standIns := [], harness := (true, "b5128e20423392c1a776c064341af5e2b37ac648f673b3f601849a425a383b9c"), looks := true }, kinds := [], alts := [], laidByText := true, laidKinds := [.data, .sentinel, .sentinel, .pinned], laidTests := true, laidLooks := .later }
def FnPartStringUptoCardSaid : Prop := Claim7.holds Tryd.pinned (.plain (OpenSpec.upto fnPartStringSpec)) fnPartStringUptoCard

/-- THE SECOND FORM's CARD OF 'laws.FnPartStringOpen'. -/
def fnPartStringOpenUptoCard : Claim7 := { stood := { row := fnPartStringOpenUptoRow, standIns := [], harness := (true, "b5128e20423392c1a776c064341af5e2b37ac648f673b3f601849a425a383b9c"), looks := true }, kinds := [], alts := [], laidByText := true, laidKinds := [.data, .sentinel, .sentinel, .pinned], laidTests := true, laidLooks := .later }
def FnPartStringOpenUptoCardSaid : Prop := Claim7.holds Tryd.pinned (.plain (OpenSpec.upto fnPartStringOpenSpec)) fnPartStringOpenUptoCard

/-- THE SECOND FORM's CARD OF 'laws.FnPartRune'. -/
def fnPartRuneUptoCard : Claim7 := { stood := { row := fnPartRuneUptoRow, standIns := [], harness := (true, "b5128e20423392c1a776c064341af5e2b37ac648f673b3f601849a425a383b9c"), looks := true }, kinds := [], alts := [], laidByText := true, laidKinds := [.data, .sentinel, .sentinel, .pinned], laidTests := true, laidLooks := .later }
def FnPartRuneUptoCardSaid : Prop := Claim7.holds Tryd.pinned (.plain (OpenSpec.upto fnPartRuneSpec)) fnPartRuneUptoCard

/-- THE SECOND FORM's CARD OF 'laws.FnPartRuneOpen'. -/
def fnPartRuneOpenUptoCard : Claim7 := { stood := { row := fnPartRuneOpenUptoRow, standIns := [], harness := (true, "b5128e20423392c1a776c064341af5e2b37ac648f673b3f601849a425a383b9c"), looks := true }, kinds := [], alts := [], laidByText := true, laidKinds := [.data, .sentinel, .sentinel, .pinned], laidTests := true, laidLooks := .later }
def FnPartRuneOpenUptoCardSaid : Prop := Claim7.holds Tryd.pinned (.plain (OpenSpec.upto fnPartRuneOpenSpec)) fnPartRuneOpenUptoCard

/-- THE SECOND FORM's CARD OF 'laws.FnPartBadNumber'. -/
def fnPartBadNumberUptoCard : Claim7 := { stood := { row := fnPartBadNumberUptoRow, standIns := [], harness := (true, "b5128e20423392c1a776c064341af5e2b37ac648f673b3f601849a425a383b9c"), looks := true }, kinds := [], alts := [], laidByText := true, laidKinds := [.data, .sentinel, .sentinel, .pinned], laidTests := true, laidLooks := .later }
def FnPartBadNumberUptoCardSaid : Prop := Claim7.holds Tryd.pinned (.plain (OpenSpec.upto fnPartBadNumberSpec)) fnPartBadNumberUptoCard

/-- THE SECOND FORM's CARD OF 'laws.FnPartNumber'. -/
def fnPartNumberUptoCard : Claim7 := { stood := { row := fnPartNumberUptoRow, standIns := [], harness := (true, "b5128e20423392c1a776c064341af5e2b37ac648f673b3f601849a425a383b9c"), looks := true }, kinds := [], alts := [], laidByText := true, laidKinds := [.data, .sentinel, .sentinel, .pinned], laidTests := true, laidLooks := .later }
def FnPartNumberUptoCardSaid : Prop := Claim7.holds Tryd.pinned (.plain (OpenSpec.upto fnPartNumberSpec)) fnPartNumberUptoCard

/-- THE SECOND FORM's CARD OF 'laws.FnPartPoint'. -/
def fnPartPointUptoCard : Claim7 := { stood := { row := fnPartPointUptoRow, standIns := [], harness := (true, "b5128e20423392c1a776c064341af5e2b37ac648f673b3f601849a425a383b9c"), looks := true }, kinds := [], alts := [], laidByText := true, laidKinds := [.data, .sentinel, .sentinel, .pinned], laidTests := true, laidLooks := .later }
def FnPartPointUptoCardSaid : Prop := Claim7.holds Tryd.pinned (.plain (OpenSpec.upto fnPartPointSpec)) fnPartPointUptoCard

/-- THE SECOND FORM's CARD OF 'laws.FnPartKeyword'. -/
def fnPartKeywordUptoCard : Claim7 := { stood := { row := fnPartKeywordUptoRow, standIns := [], harness := (true, "b5128e20423392c1a776c064341af5e2b37ac648f673b3f601849a425a383b9c"), looks := true }, kinds := [], alts := [], laidByText := true, laidKinds := [.data, .data, .data, .data, .sentinel, .sentinel, .data, .data, .pinned, .pinned, .pinned], laidTests := true, laidLooks := .later }
def FnPartKeywordUptoCardSaid : Prop := Claim7.holds Tryd.pinned (.plain (OpenSpec.upto fnPartKeywordSpec)) fnPartKeywordUptoCard

/-- THE SECOND FORM's CARD OF 'laws.FnPartName'. -/
def fnPartNameUptoCard : Claim7 := { stood := { row := fnPartNameUptoRow, standIns := [], harness := (true, "b5128e20423392c1a776c064341af5e2b37ac648f673b3f601849a425a383b9c"), looks := true }, kinds := [], alts := [], laidByText := true, laidKinds := [.data, .data, .data, .data, .sentinel, .sentinel, .data, .data, .pinned, .pinned, .pinned], laidTests := true, laidLooks := .later }
def FnPartNameUptoCardSaid : Prop := Claim7.holds Tryd.pinned (.plain (OpenSpec.upto fnPartNameSpec)) fnPartNameUptoCard
end Rows
end Go.Proofs.YtnehkpoggkfikaaDoor

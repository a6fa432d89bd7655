/-
  DERIVED. GIVEN WITH THE SEED: THE CARDS: each row of YtchkjdopoanjdaaDoorRows.lean that lists a variable, with what it lists TIED to the program's text (the seventh form; the later family's looks); each row that meets fmt, with fmt's text TOLD by the authors' own Lean function (tested against real Go, not proved from fmt's source: count such statements apart). THE CARD IS WHAT COUNTS. Prove the row's statement (the work); the ties are given (YtchkjdopoanjdaaDoorTie.lean); close each card by the builder's one call (the guide's Derived/Test/ToyasCard.lean, 'card_holds'). Laid BY PROGRAM, IN A SANDBOX (cutbox-door.mjs). By AI agents, Wed Nov 11 2026. No macro, syntax, notation, axiom, sorry.
-/
import Derived.Test.YtchkjdopoanjdaaDoorRows
import GoSem.ClaimSeven
namespace Go.Proofs.YtchkjdopoanjdaaDoor
namespace Rows

/-- THE TIED CARD OF 'laws.FnFieldsIterators'. -/
def fnFieldsIteratorsCard : Claim7 := { stood := { row := fnFieldsIteratorsRow, standIns := [], harness := (true, "27392a79a6fd6e6c39a04872b240a17f3eddaa05db51b61ef302ad90e07c5a78"), looks := false }, kinds := [], alts := [], laidByText := true, laidKinds := [.data, .listed, .data, .pinned], laidTests := true, laidLooks := .later }
def FnFieldsIteratorsCardSaid : Prop := Claim7.holds Tryd.pinned (.plain (OpenSpec.ofChange fnFieldsIteratorsSpec)) fnFieldsIteratorsCard

/-- THE TIED CARD OF 'laws.FnAnyBytes'. -/
def fnAnyBytesCard : Claim7 := { stood := { row := fnAnyBytesRow, standIns := [], harness := (true, "27392a79a6fd6e6c39a04872b240a17f3eddaa05db51b61ef302ad90e07c5a78"), looks := false }, kinds := [], alts := [], laidByText := true, laidKinds := [.data, .listed, .data, .data, .pinned], laidTests := true, laidLooks := .later }
def FnAnyBytesCardSaid : Prop := Claim7.holds Tryd.pinned (.plain (OpenSpec.ofChange fnAnyBytesSpec)) fnAnyBytesCard

/-- THE TIED CARD OF 'laws.FnBytesFieldsAreStrings'. -/
def fnBytesFieldsAreStringsCard : Claim7 := { stood := { row := fnBytesFieldsAreStringsRow, standIns := [], harness := (true, "27392a79a6fd6e6c39a04872b240a17f3eddaa05db51b61ef302ad90e07c5a78"), looks := false }, kinds := [], alts := [], laidByText := true, laidKinds := [.data, .listed, .data, .data, .pinned], laidTests := true, laidLooks := .later }
def FnBytesFieldsAreStringsCardSaid : Prop := Claim7.holds Tryd.pinned (.plain (OpenSpec.ofChange fnBytesFieldsAreStringsSpec)) fnBytesFieldsAreStringsCard

/-- THE TIED CARD OF 'laws.FnFieldsFuncSeq'. -/
def fnFieldsFuncSeqCard : Claim7 := { stood := { row := fnFieldsFuncSeqRow, standIns := [], harness := (true, "27392a79a6fd6e6c39a04872b240a17f3eddaa05db51b61ef302ad90e07c5a78"), looks := false }, kinds := [], alts := [], laidByText := true, laidKinds := [.data, .pinned], laidTests := true, laidLooks := .later }
def FnFieldsFuncSeqCardSaid : Prop := Claim7.holds Tryd.pinned (.plain (OpenSpec.ofChange fnFieldsFuncSeqSpec)) fnFieldsFuncSeqCard

/-- THE TIED CARD OF 'laws.FnBytesFieldsFuncSeq'. -/
def fnBytesFieldsFuncSeqCard : Claim7 := { stood := { row := fnBytesFieldsFuncSeqRow, standIns := [], harness := (true, "27392a79a6fd6e6c39a04872b240a17f3eddaa05db51b61ef302ad90e07c5a78"), looks := false }, kinds := [], alts := [], laidByText := true, laidKinds := [.data, .pinned], laidTests := true, laidLooks := .later }
def FnBytesFieldsFuncSeqCardSaid : Prop := Claim7.holds Tryd.pinned (.plain (OpenSpec.ofChange fnBytesFieldsFuncSeqSpec)) fnBytesFieldsFuncSeqCard

/-- THE TIED CARD OF 'laws.FnBytesFieldsFunc'. -/
def fnBytesFieldsFuncCard : Claim7 := { stood := { row := fnBytesFieldsFuncRow, standIns := [], harness := (true, "27392a79a6fd6e6c39a04872b240a17f3eddaa05db51b61ef302ad90e07c5a78"), looks := false }, kinds := [], alts := [], laidByText := true, laidKinds := [.data, .pinned], laidTests := true, laidLooks := .later }
def FnBytesFieldsFuncCardSaid : Prop := Claim7.holds Tryd.pinned (.plain (OpenSpec.ofChange fnBytesFieldsFuncSpec)) fnBytesFieldsFuncCard

/-- THE TIED CARD OF 'laws.FnFieldsSeq'. -/
def fnFieldsSeqCard : Claim7 := { stood := { row := fnFieldsSeqRow, standIns := [], harness := (true, "27392a79a6fd6e6c39a04872b240a17f3eddaa05db51b61ef302ad90e07c5a78"), looks := false }, kinds := [], alts := [], laidByText := true, laidKinds := [.data, .listed, .data, .pinned], laidTests := true, laidLooks := .later }
def FnFieldsSeqCardSaid : Prop := Claim7.holds Tryd.pinned (.plain (OpenSpec.ofChange fnFieldsSeqSpec)) fnFieldsSeqCard

/-- THE TIED CARD OF 'laws.FnBytesFieldsSeq'. -/
def fnBytesFieldsSeqCard : Claim7 := { stood := { row := fnBytesFieldsSeqRow, standIns := [], harness := (true, "27392a79a6fd6e6c39a04872b240a17f3eddaa05db51b61ef302ad90e07c5a78"), looks := false }, kinds := [], alts := [], laidByText := true, laidKinds := [.data, .listed, .data, .pinned], laidTests := true, laidLooks := .later }
def FnBytesFieldsSeqCardSaid : Prop := Claim7.holds Tryd.pinned (.plain (OpenSpec.ofChange fnBytesFieldsSeqSpec)) fnBytesFieldsSeqCard

/-- THE TIED CARD OF 'laws.FnFields'. -/
def fnFieldsCard : Claim7 := { stood := { row := fnFieldsRow, standIns := [], harness := (true, "27392a79a6fd6e6c39a04872b240a17f3eddaa05db51b61ef302ad90e07c5a78"), looks := false }, kinds := [], alts := [], laidByText := true, laidKinds := [.listed, .data], laidTests := true, laidLooks := .later }
def FnFieldsCardSaid : Prop := Claim7.holds Tryd.pinned (.plain (OpenSpec.ofChange fnFieldsSpec)) fnFieldsCard

/-- THE TIED CARD OF 'laws.FnFieldsComeBack'. -/
def fnFieldsComeBackCard : Claim7 := { stood := { row := fnFieldsComeBackRow, standIns := [], harness := (true, "27392a79a6fd6e6c39a04872b240a17f3eddaa05db51b61ef302ad90e07c5a78"), looks := false }, kinds := [], alts := [], laidByText := true, laidKinds := [.listed, .data], laidTests := true, laidLooks := .later }
def FnFieldsComeBackCardSaid : Prop := Claim7.holds Tryd.pinned (.plain (OpenSpec.ofChange fnFieldsComeBackSpec)) fnFieldsComeBackCard

/-- THE TIED CARD OF 'laws.FnFieldsHaveNoSpace'. -/
def fnFieldsHaveNoSpaceCard : Claim7 := { stood := { row := fnFieldsHaveNoSpaceRow, standIns := [], harness := (true, "27392a79a6fd6e6c39a04872b240a17f3eddaa05db51b61ef302ad90e07c5a78"), looks := false }, kinds := [], alts := [], laidByText := true, laidKinds := [.listed, .data], laidTests := true, laidLooks := .later }
def FnFieldsHaveNoSpaceCardSaid : Prop := Claim7.holds Tryd.pinned (.plain (OpenSpec.ofChange fnFieldsHaveNoSpaceSpec)) fnFieldsHaveNoSpaceCard

/-- THE TIED CARD OF 'laws.FnFieldsOfTwo'. -/
def fnFieldsOfTwoCard : Claim7 := { stood := { row := fnFieldsOfTwoRow, standIns := [], harness := (true, "27392a79a6fd6e6c39a04872b240a17f3eddaa05db51b61ef302ad90e07c5a78"), looks := false }, kinds := [], alts := [], laidByText := true, laidKinds := [.listed, .data], laidTests := true, laidLooks := .later }
def FnFieldsOfTwoCardSaid : Prop := Claim7.holds Tryd.pinned (.plain (OpenSpec.ofChange fnFieldsOfTwoSpec)) fnFieldsOfTwoCard

/-- THE TIED CARD OF 'laws.FnBytesFields'. -/
def fnBytesFieldsCard : Claim7 := { stood := { row := fnBytesFieldsRow, standIns := [], harness := (true, "27392a79a6fd6e6c39a04872b240a17f3eddaa05db51b61ef302ad90e07c5a78"), looks := false }, kinds := [], alts := [], laidByText := true, laidKinds := [.data, .listed, .data, .pinned], laidTests := true, laidLooks := .later }
def FnBytesFieldsCardSaid : Prop := Claim7.holds Tryd.pinned (.plain (OpenSpec.ofChange fnBytesFieldsSpec)) fnBytesFieldsCard

/-- THE TIED CARD OF 'laws.FnFieldsByFunc'. -/
def fnFieldsByFuncCard : Claim7 := { stood := { row := fnFieldsByFuncRow, standIns := [], harness := (true, "27392a79a6fd6e6c39a04872b240a17f3eddaa05db51b61ef302ad90e07c5a78"), looks := false }, kinds := [], alts := [], laidByText := true, laidKinds := [.data, .listed, .data, .pinned], laidTests := true, laidLooks := .later }
def FnFieldsByFuncCardSaid : Prop := Claim7.holds Tryd.pinned (.plain (OpenSpec.ofChange fnFieldsByFuncSpec)) fnFieldsByFuncCard

/-- THE SECOND FORM's CARD OF 'laws.FnFieldsIterators'. -/
def fnFieldsIteratorsUptoCard : Claim7 := { stood := { row := fnFieldsIteratorsUptoRow, standIns := [], harness := (true, "27392a79a6fd6e6c39a04872b240a17f3eddaa05db51b61ef302ad90e07c5a78"), looks := false }, kinds := [], alts := [], laidByText := true, laidKinds := [.data, .listed, .data, .pinned], laidTests := true, laidLooks := .later }
def FnFieldsIteratorsUptoCardSaid : Prop := Claim7.holds Tryd.pinned (.plain (OpenSpec.upto fnFieldsIteratorsSpec)) fnFieldsIteratorsUptoCard

/-- THE SECOND FORM's CARD OF 'laws.FnAnyBytes'. -/
def fnAnyBytesUptoCard : Claim7 := { stood := { row := fnAnyBytesUptoRow, standIns := [], harness := (true, "27392a79a6fd6e6c39a04872b240a17f3eddaa05db51b61ef302ad90e07c5a78"), looks := false }, kinds := [], alts := [], laidByText := true, laidKinds := [.data, .listed, .data, .data, .pinned], laidTests := true, laidLooks := .later }
def FnAnyBytesUptoCardSaid : Prop := Claim7.holds Tryd.pinned (.plain (OpenSpec.upto fnAnyBytesSpec)) fnAnyBytesUptoCard

/-- THE SECOND FORM's CARD OF 'laws.FnBytesFieldsAreStrings'. -/
def fnBytesFieldsAreStringsUptoCard : Claim7 := { stood := { row := fnBytesFieldsAreStringsUptoRow, standIns := [], harness := (true, "27392a79a6fd6e6c39a04872b240a17f3eddaa05db51b61ef302ad90e07c5a78"), looks := false }, kinds := [], alts := [], laidByText := true, laidKinds := [.data, .listed, .data, .data, .pinned], laidTests := true, laidLooks := .later }
def FnBytesFieldsAreStringsUptoCardSaid : Prop := Claim7.holds Tryd.pinned (.plain (OpenSpec.upto fnBytesFieldsAreStringsSpec)) fnBytesFieldsAreStringsUptoCard

/-- THE SECOND FORM's CARD OF 'laws.FnFieldsFuncSeq'. -/
def fnFieldsFuncSeqUptoCard : Claim7 := { stood := { row := fnFieldsFuncSeqUptoRow, standIns := [], harness := (true, "27392a79a6fd6e6c39a04872b240a17f3eddaa05db51b61ef302ad90e07c5a78"), looks := false }, kinds := [], alts := [], laidByText := true, laidKinds := [.data, .pinned], laidTests := true, laidLooks := .later }
def FnFieldsFuncSeqUptoCardSaid : Prop := Claim7.holds Tryd.pinned (.plain (OpenSpec.upto fnFieldsFuncSeqSpec)) fnFieldsFuncSeqUptoCard

/-- THE SECOND FORM's CARD OF 'laws.FnBytesFieldsFuncSeq'. -/
def fnBytesFieldsFuncSeqUptoCard : Claim7 := { stood := { row := fnBytesFieldsFuncSeqUptoRow, standIns := [], harness := (true, "27392a79a6fd6e6c39a04872b240a17f3eddaa05db51b61ef302ad90e07c5a78"), looks := false }, kinds := [], alts := [], laidByText := true, laidKinds := [.data, .pinned], laidTests := true, laidLooks := .later }
def FnBytesFieldsFuncSeqUptoCardSaid : Prop := Claim7.holds Tryd.pinned (.plain (OpenSpec.upto fnBytesFieldsFuncSeqSpec)) fnBytesFieldsFuncSeqUptoCard

/-- THE SECOND FORM's CARD OF 'laws.FnBytesFieldsFunc'. -/
def fnBytesFieldsFuncUptoCard : Claim7 := { stood := { row := fnBytesFieldsFuncUptoRow, standIns := [], harness := (true, "27392a79a6fd6e6c39a04872b240a17f3eddaa05db51b61ef302ad90e07c5a78"), looks := false }, kinds := [], alts := [], laidByText := true, laidKinds := [.data, .pinned], laidTests := true, laidLooks := .later }
def FnBytesFieldsFuncUptoCardSaid : Prop := Claim7.holds Tryd.pinned (.plain (OpenSpec.upto fnBytesFieldsFuncSpec)) fnBytesFieldsFuncUptoCard

/-- THE SECOND FORM's CARD OF 'laws.FnFieldsSeq'. -/
def fnFieldsSeqUptoCard : Claim7 := { stood := { row := fnFieldsSeqUptoRow, standIns := [], harness := (true, "27392a79a6fd6e6c39a04872b240a17f3eddaa05db51b61ef302ad90e07c5a78"), looks := false }, kinds := [], alts := [], laidByText := true, laidKinds := [.data, .listed, .data, .pinned], laidTests := true, laidLooks := .later }
def FnFieldsSeqUptoCardSaid : Prop := Claim7.holds Tryd.pinned (.plain (OpenSpec.upto fnFieldsSeqSpec)) fnFieldsSeqUptoCard

/-- THE SECOND FORM's CARD OF 'laws.FnBytesFieldsSeq'. -/
def fnBytesFieldsSeqUptoCard : Claim7 := { stood := { row := fnBytesFieldsSeqUptoRow, standIns := [], harness := (true, "27392a79a6fd6e6c39a04872b240a17f3eddaa05db51b61ef302ad90e07c5a78"), looks := false }, kinds := [], alts := [], laidByText := true, laidKinds := [.data, .listed, .data, .pinned], laidTests := true, laidLooks := .later }
def FnBytesFieldsSeqUptoCardSaid : Prop := Claim7.holds Tryd.pinned (.plain (OpenSpec.upto fnBytesFieldsSeqSpec)) fnBytesFieldsSeqUptoCard

/-- THE SECOND FORM's CARD OF 'laws.FnFields'. -/
def fnFieldsUptoCard : Claim7 := { stood := { row := fnFieldsUptoRow, standIns := [], harness := (true, "27392a79a6fd6e6c39a04872b240a17f3eddaa05db51b61ef302ad90e07c5a78"), looks := false }, kinds := [], alts := [], laidByText := true, laidKinds := [.listed, .data], laidTests := true, laidLooks := .later }
def FnFieldsUptoCardSaid : Prop := Claim7.holds Tryd.pinned (.plain (OpenSpec.upto fnFieldsSpec)) fnFieldsUptoCard

/-- THE SECOND FORM's CARD OF 'laws.FnFieldsComeBack'. -/
def fnFieldsComeBackUptoCard : Claim7 := { stood := { row := fnFieldsComeBackUptoRow, standIns := [], harness := (true, "27392a79a6fd6e6c39a04872b240a17f3eddaa05db51b61ef302ad90e07c5a78"), looks := false }, kinds := [], alts := [], laidByText := true, laidKinds := [.listed, .data], laidTests := true, laidLooks := .later }
def FnFieldsComeBackUptoCardSaid : Prop := Claim7.holds Tryd.pinned (.plain (OpenSpec.upto fnFieldsComeBackSpec)) fnFieldsComeBackUptoCard

/-- THE SECOND FORM's CARD OF 'laws.FnFieldsHaveNoSpace'. -/
def fnFieldsHaveNoSpaceUptoCard : Claim7 := { stood := { row := fnFieldsHaveNoSpaceUptoRow, standIns := [], harness := (true, "27392a79a6fd6e6c39a04872b240a17f3eddaa05db51b61ef302ad90e07c5a78"), looks := false }, kinds := [], alts := [], laidByText := true, laidKinds := [.listed, .data], laidTests := true, laidLooks := .later }
def FnFieldsHaveNoSpaceUptoCardSaid : Prop := Claim7.holds Tryd.pinned (.plain (OpenSpec.upto fnFieldsHaveNoSpaceSpec)) fnFieldsHaveNoSpaceUptoCard

/-- THE SECOND FORM's CARD OF 'laws.FnFieldsOfTwo'. -/
def fnFieldsOfTwoUptoCard : Claim7 := { stood := { row := fnFieldsOfTwoUptoRow, standIns := [], harness := (true, "27392a79a6fd6e6c39a04872b240a17f3eddaa05db51b61ef302ad90e07c5a78"), looks := false }, kinds := [], alts := [], laidByText := true, laidKinds := [.listed, .data], laidTests := true, laidLooks := .later }
def FnFieldsOfTwoUptoCardSaid : Prop := Claim7.holds Tryd.pinned (.plain (OpenSpec.upto fnFieldsOfTwoSpec)) fnFieldsOfTwoUptoCard

/-- THE SECOND FORM's CARD OF 'laws.FnBytesFields'. -/
def fnBytesFieldsUptoCard : Claim7 := { stood := { row := fnBytesFieldsUptoRow, standIns := [], harness := (true, "27392a79a6fd6e6c39a04872b240a17f3eddaa05db51b61ef302ad90e07c5a78"), looks := false }, kinds := [], alts := [], laidByText := true, laidKinds := [.data, .listed, .data, .pinned], laidTests := true, laidLooks := .later }
def FnBytesFieldsUptoCardSaid : Prop := Claim7.holds Tryd.pinned (.plain (OpenSpec.upto fnBytesFieldsSpec)) fnBytesFieldsUptoCard

/-- THE SECOND FORM's CARD OF 'laws.FnFieldsByFunc'. -/
def fnFieldsByFuncUptoCard : Claim7 := { stood := { row := fnFieldsByFuncUptoRow, standIns := [], harness := (true, "27392a79a6fd6e6c39a04872b240a17f3eddaa05db51b61ef302ad90e07c5a78"), looks := false }, kinds := [], alts := [], laidByText := true, laidKinds := [.data, .listed, .data, .pinned], laidTests := true, laidLooks := .later }
def FnFieldsByFuncUptoCardSaid : Prop := Claim7.holds Tryd.pinned (.plain (OpenSpec.upto fnFieldsByFuncSpec)) fnFieldsByFuncUptoCard
end Rows
end Go.Proofs.YtchkjdopoanjdaaDoor

/-
  DERIVED. GIVEN WITH THE SEED: THE CARDS: each row of YtfmokdgapfbkbaaDoorRows.lean that lists a variable, with what it lists TIED to the program's text (the seventh form; the later family's looks); each row that meets fmt, with fmt's text TOLD by the authors' own Lean function (tested against real Go, not proved from fmt's source: count such statements apart). THE CARD IS WHAT COUNTS. Prove the row's statement (the work); the ties are given (YtfmokdgapfbkbaaDoorTie.lean); close each card by the builder's one call (the guide's Derived/Test/ToyasCard.lean, 'card_holds'). Laid BY PROGRAM, IN A SANDBOX (cutbox-door.mjs). By AI agents, Wed Nov 11 2026. No macro, syntax, notation, axiom, sorry.
-/
import Derived.Test.YtfmokdgapfbkbaaDoorRows
import GoSem.ClaimSeven
namespace Go.Proofs.YtfmokdgapfbkbaaDoor
namespace Rows

/-- THE TIED CARD OF 'laws.FnBadNameBytes'. -/
def fnBadNameBytesCard : Claim7 := { stood := { row := fnBadNameBytesRow, standIns := [], harness := (true, "e24b8155fa11af9d4b22fa07fee75360f5a7b36ac20c4748fc39b7c7f777fadb"), looks := true }, kinds := [], alts := [], laidByText := true, laidKinds := [.data, .sentinel, .pinned], laidTests := true, laidLooks := .later }
def FnBadNameBytesCardSaid : Prop := Claim7.holds Tryd.pinned (.plain (OpenSpec.ofChange fnBadNameBytesSpec)) fnBadNameBytesCard

/-- THE TIED CARD OF 'laws.FnExactBase'. -/
def fnExactBaseCard : Claim7 := { stood := { row := fnExactBaseRow, standIns := [], harness := (true, "e24b8155fa11af9d4b22fa07fee75360f5a7b36ac20c4748fc39b7c7f777fadb"), looks := true }, kinds := [], alts := [], laidByText := true, laidKinds := [.data, .pinned], laidTests := true, laidLooks := .later }
def FnExactBaseCardSaid : Prop := Claim7.holds Tryd.pinned (.plain (OpenSpec.ofChange fnExactBaseSpec)) fnExactBaseCard

/-- THE TIED CARD OF 'laws.FnMatchBadFalse'. -/
def fnMatchBadFalseCard : Claim7 := { stood := { row := fnMatchBadFalseRow, standIns := [], harness := (true, "e24b8155fa11af9d4b22fa07fee75360f5a7b36ac20c4748fc39b7c7f777fadb"), looks := true }, kinds := [], alts := [], laidByText := true, laidKinds := [.data, .sentinel, .pinned], laidTests := true, laidLooks := .later }
def FnMatchBadFalseCardSaid : Prop := Claim7.holds Tryd.pinned (.plain (OpenSpec.ofChange fnMatchBadFalseSpec)) fnMatchBadFalseCard

/-- THE TIED CARD OF 'laws.FnPlainBytes'. -/
def fnPlainBytesCard : Claim7 := { stood := { row := fnPlainBytesRow, standIns := [], harness := (true, "e24b8155fa11af9d4b22fa07fee75360f5a7b36ac20c4748fc39b7c7f777fadb"), looks := true }, kinds := [], alts := [], laidByText := true, laidKinds := [.data, .sentinel, .pinned], laidTests := true, laidLooks := .later }
def FnPlainBytesCardSaid : Prop := Claim7.holds Tryd.pinned (.plain (OpenSpec.ofChange fnPlainBytesSpec)) fnPlainBytesCard

/-- THE TIED CARD OF 'laws.FnQuoteBytes'. -/
def fnQuoteBytesCard : Claim7 := { stood := { row := fnQuoteBytesRow, standIns := [], harness := (true, "e24b8155fa11af9d4b22fa07fee75360f5a7b36ac20c4748fc39b7c7f777fadb"), looks := true }, kinds := [], alts := [], laidByText := true, laidKinds := [.data, .sentinel, .pinned], laidTests := true, laidLooks := .later }
def FnQuoteBytesCardSaid : Prop := Claim7.holds Tryd.pinned (.plain (OpenSpec.ofChange fnQuoteBytesSpec)) fnQuoteBytesCard

/-- THE TIED CARD OF 'laws.FnMatchOnlyBad'. -/
def fnMatchOnlyBadCard : Claim7 := { stood := { row := fnMatchOnlyBadRow, standIns := [], harness := (true, "e24b8155fa11af9d4b22fa07fee75360f5a7b36ac20c4748fc39b7c7f777fadb"), looks := true }, kinds := [], alts := [], laidByText := true, laidKinds := [.data, .sentinel, .pinned], laidTests := true, laidLooks := .later }
def FnMatchOnlyBadCardSaid : Prop := Claim7.holds Tryd.pinned (.plain (OpenSpec.ofChange fnMatchOnlyBadSpec)) fnMatchOnlyBadCard

/-- THE TIED CARD OF 'laws.FnExactFails'. -/
def fnExactFailsCard : Claim7 := { stood := { row := fnExactFailsRow, standIns := [], harness := (true, "e24b8155fa11af9d4b22fa07fee75360f5a7b36ac20c4748fc39b7c7f777fadb"), looks := true }, kinds := [], alts := [], laidByText := true, laidKinds := [.data, .sentinel, .pinned], laidTests := true, laidLooks := .later }
def FnExactFailsCardSaid : Prop := Claim7.holds Tryd.pinned (.plain (OpenSpec.ofChange fnExactFailsSpec)) fnExactFailsCard

/-- THE TIED CARD OF 'laws.FnExactFailsCorner'. -/
def fnExactFailsCornerCard : Claim7 := { stood := { row := fnExactFailsCornerRow, standIns := [], harness := (true, "e24b8155fa11af9d4b22fa07fee75360f5a7b36ac20c4748fc39b7c7f777fadb"), looks := true }, kinds := [], alts := [], laidByText := true, laidKinds := [.data, .sentinel, .pinned], laidTests := true, laidLooks := .later }
def FnExactFailsCornerCardSaid : Prop := Claim7.holds Tryd.pinned (.plain (OpenSpec.ofChange fnExactFailsCornerSpec)) fnExactFailsCornerCard

/-- THE TIED CARD OF 'laws.FnMatchBadClosing'. -/
def fnMatchBadClosingCard : Claim7 := { stood := { row := fnMatchBadClosingRow, standIns := [], harness := (true, "e24b8155fa11af9d4b22fa07fee75360f5a7b36ac20c4748fc39b7c7f777fadb"), looks := true }, kinds := [], alts := [], laidByText := true, laidKinds := [.data, .sentinel, .pinned], laidTests := true, laidLooks := .later }
def FnMatchBadClosingCardSaid : Prop := Claim7.holds Tryd.pinned (.plain (OpenSpec.ofChange fnMatchBadClosingSpec)) fnMatchBadClosingCard

/-- THE TIED CARD OF 'laws.FnAnyMany'. -/
def fnAnyManyCard : Claim7 := { stood := { row := fnAnyManyRow, standIns := [], harness := (true, "e24b8155fa11af9d4b22fa07fee75360f5a7b36ac20c4748fc39b7c7f777fadb"), looks := true }, kinds := [], alts := [], laidByText := true, laidKinds := [.data, .sentinel, .pinned], laidTests := true, laidLooks := .later }
def FnAnyManyCardSaid : Prop := Claim7.holds Tryd.pinned (.plain (OpenSpec.ofChange fnAnyManySpec)) fnAnyManyCard

/-- THE TIED CARD OF 'laws.FnMatchBadInside'. -/
def fnMatchBadInsideCard : Claim7 := { stood := { row := fnMatchBadInsideRow, standIns := [], harness := (true, "e24b8155fa11af9d4b22fa07fee75360f5a7b36ac20c4748fc39b7c7f777fadb"), looks := true }, kinds := [], alts := [], laidByText := true, laidKinds := [.data, .sentinel, .pinned], laidTests := true, laidLooks := .later }
def FnMatchBadInsideCardSaid : Prop := Claim7.holds Tryd.pinned (.plain (OpenSpec.ofChange fnMatchBadInsideSpec)) fnMatchBadInsideCard

/-- THE SECOND FORM's CARD OF 'laws.FnBadNameBytes'. -/
def fnBadNameBytesUptoCard : Claim7 := { stood := { row := fnBadNameBytesUptoRow, standIns := [], harness := (true, "e24b8155fa11af9d4b22fa07fee75360f5a7b36ac20c4748fc39b7c7f777fadb"), looks := true }, kinds := [], alts := [], laidByText := true, laidKinds := [.data, .sentinel, .pinned], laidTests := true, laidLooks := .later }
def FnBadNameBytesUptoCardSaid : Prop := Claim7.holds Tryd.pinned (.plain (OpenSpec.upto fnBadNameBytesSpec)) fnBadNameBytesUptoCard

/-- THE SECOND FORM's CARD OF 'laws.FnExactBase'. -/
def fnExactBaseUptoCard : Claim7 := { stood := { row := fnExactBaseUptoRow, standIns := [], harness := (true, "e24b8155fa11af9d4b22fa07fee75360f5a7b36ac20c4748fc39b7c7f777fadb"), looks := true }, kinds := [], alts := [], laidByText := true, laidKinds := [.data, .pinned], laidTests := true, laidLooks := .later }
def FnExactBaseUptoCardSaid : Prop := Claim7.holds Tryd.pinned (.plain (OpenSpec.upto fnExactBaseSpec)) fnExactBaseUptoCard

/-- THE SECOND FORM's CARD OF 'laws.FnMatchBadFalse'. -/
def fnMatchBadFalseUptoCard : Claim7 := { stood := { row := fnMatchBadFalseUptoRow, standIns := [], harness := (true, "e24b8155fa11af9d4b22fa07fee75360f5a7b36ac20c4748fc39b7c7f777fadb"), looks := true }, kinds := [], alts := [], laidByText := true, laidKinds := [.data, .sentinel, .pinned], laidTests := true, laidLooks := .later }
def FnMatchBadFalseUptoCardSaid : Prop := Claim7.holds Tryd.pinned (.plain (OpenSpec.upto fnMatchBadFalseSpec)) fnMatchBadFalseUptoCard

/-- THE SECOND FORM's CARD OF 'laws.FnPlainBytes'. -/
def fnPlainBytesUptoCard : Claim7 := { stood := { row := fnPlainBytesUptoRow, standIns := [], harness := (true, "e24b8155fa11af9d4b22fa07fee75360f5a7b36ac20c4748fc39b7c7f777fadb"), looks := true }, kinds := [], alts := [], laidByText := true, laidKinds := [.data, .sentinel, .pinned], laidTests := true, laidLooks := .later }
def FnPlainBytesUptoCardSaid : Prop := Claim7.holds Tryd.pinned (.plain (OpenSpec.upto fnPlainBytesSpec)) fnPlainBytesUptoCard

/-- THE SECOND FORM's CARD OF 'laws.FnQuoteBytes'. -/
def fnQuoteBytesUptoCard : Claim7 := { stood := { row := fnQuoteBytesUptoRow, standIns := [], harness := (true, "e24b8155fa11af9d4b22fa07fee75360f5a7b36ac20c4748fc39b7c7f777fadb"), looks := true }, kinds := [], alts := [], laidByText := true, laidKinds := [.data, .sentinel, .pinned], laidTests := true, laidLooks := .later }
def FnQuoteBytesUptoCardSaid : Prop := Claim7.holds Tryd.pinned (.plain (OpenSpec.upto fnQuoteBytesSpec)) fnQuoteBytesUptoCard

/-- THE SECOND FORM's CARD OF 'laws.FnMatchOnlyBad'. -/
def fnMatchOnlyBadUptoCard : Claim7 := { stood := { row := fnMatchOnlyBadUptoRow, standIns := [], harness := (true, "e24b8155fa11af9d4b22fa07fee75360f5a7b36ac20c4748fc39b7c7f777fadb"), looks := true }, kinds := [], alts := [], laidByText := true, laidKinds := [.data, .sentinel, .pinned], laidTests := true, laidLooks := .later }
def FnMatchOnlyBadUptoCardSaid : Prop := Claim7.holds Tryd.pinned (.plain (OpenSpec.upto fnMatchOnlyBadSpec)) fnMatchOnlyBadUptoCard

/-- THE SECOND FORM's CARD OF 'laws.FnExactFails'. -/
def fnExactFailsUptoCard : Claim7 := { stood := { row := fnExactFailsUptoRow, standIns := [], harness := (true, "e24b8155fa11af9d4b22fa07fee75360f5a7b36ac20c4748fc39b7c7f777fadb"), looks := true }, kinds := [], alts := [], laidByText := true, laidKinds := [.data, .sentinel, .pinned], laidTests := true, laidLooks := .later }
def FnExactFailsUptoCardSaid : Prop := Claim7.holds Tryd.pinned (.plain (OpenSpec.upto fnExactFailsSpec)) fnExactFailsUptoCard

/-- THE SECOND FORM's CARD OF 'laws.FnExactFailsCorner'. -/
def fnExactFailsCornerUptoCard : Claim7 := { stood := { row := fnExactFailsCornerUptoRow, standIns := [], harness := (true, "e24b8155fa11af9d4b22fa07fee75360f5a7b36ac20c4748fc39b7c7f777fadb"), looks := true }, kinds := [], alts := [], laidByText := true, laidKinds := [.data, .sentinel, .pinned], laidTests := true, laidLooks := .later }
def FnExactFailsCornerUptoCardSaid : Prop := Claim7.holds Tryd.pinned (.plain (OpenSpec.upto fnExactFailsCornerSpec)) fnExactFailsCornerUptoCard

/-- THE SECOND FORM's CARD OF 'laws.FnMatchBadClosing'. -/
def fnMatchBadClosingUptoCard : Claim7 := { stood := { row := fnMatchBadClosingUptoRow, standIns := [], harness := (true, "e24b8155fa11af9d4b22fa07fee75360f5a7b36ac20c4748fc39b7c7f777fadb"), looks := true }, kinds := [], alts := [], laidByText := true, laidKinds := [.data, .sentinel, .pinned], laidTests := true, laidLooks := .later }
def FnMatchBadClosingUptoCardSaid : Prop := Claim7.holds Tryd.pinned (.plain (OpenSpec.upto fnMatchBadClosingSpec)) fnMatchBadClosingUptoCard

/-- THE SECOND FORM's CARD OF 'laws.FnAnyMany'. -/
def fnAnyManyUptoCard : Claim7 := { stood := { row := fnAnyManyUptoRow, standIns := [], harness := (true, "e24b8155fa11af9d4b22fa07fee75360f5a7b36ac20c4748fc39b7c7f777fadb"), looks := true }, kinds := [], alts := [], laidByText := true, laidKinds := [.data, .sentinel, .pinned], laidTests := true, laidLooks := .later }
def FnAnyManyUptoCardSaid : Prop := Claim7.holds Tryd.pinned (.plain (OpenSpec.upto fnAnyManySpec)) fnAnyManyUptoCard

/-- THE SECOND FORM's CARD OF 'laws.FnMatchBadInside'. -/
def fnMatchBadInsideUptoCard : Claim7 := { stood := { row := fnMatchBadInsideUptoRow, standIns := [], harness := (true, "e24b8155fa11af9d4b22fa07fee75360f5a7b36ac20c4748fc39b7c7f777fadb"), looks := true }, kinds := [], alts := [], laidByText := true, laidKinds := [.data, .sentinel, .pinned], laidTests := true, laidLooks := .later }
def FnMatchBadInsideUptoCardSaid : Prop := Claim7.holds Tryd.pinned (.plain (OpenSpec.upto fnMatchBadInsideSpec)) fnMatchBadInsideUptoCard
end Rows
end Go.Proofs.YtfmokdgapfbkbaaDoor

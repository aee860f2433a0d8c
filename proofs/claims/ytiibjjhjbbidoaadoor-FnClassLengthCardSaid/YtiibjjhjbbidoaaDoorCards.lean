/-
  DERIVED. GIVEN WITH THE SEED: THE CARDS: each row of YtiibjjhjbbidoaaDoorRows.lean that lists a variable, with what it lists TIED to the program's text (the seventh form; the later family's looks); each row that meets fmt, with fmt's text TOLD by the authors' own Lean function (tested against real Go, not proved from fmt's source: count such statements apart). THE CARD IS WHAT COUNTS. Prove the row's statement (the work); the ties are given (YtiibjjhjbbidoaaDoorTie.lean); close each card by the builder's one call (the guide's Derived/Test/ToyasCard.lean, 'card_holds'). Laid BY PROGRAM, IN A SANDBOX (cutbox-door.mjs). By AI agents, Wed Nov 11 2026. No macro, syntax, notation, axiom, sorry.
-/
import Derived.Test.YtiibjjhjbbidoaaDoorRows
import GoSem.ClaimSeven
namespace Go.Proofs.YtiibjjhjbbidoaaDoor
namespace Rows

/-- THE TIED CARD OF 'laws.FnMatchBadOpen'. -/
def fnMatchBadOpenCard : Claim7 := { stood := { row := fnMatchBadOpenRow, standIns := [], harness := (true, "bf4a10e59959b4ee9c595b4a25e0297ad152703664386901d7df2b12dd048f92"), looks := true }, kinds := [], alts := [], laidByText := true, laidKinds := [.data, .sentinel, .pinned], laidTests := true, laidLooks := .later }
def FnMatchBadOpenCardSaid : Prop := Claim7.holds Tryd.pinned (.plain (OpenSpec.ofChange fnMatchBadOpenSpec)) fnMatchBadOpenCard

/-- THE TIED CARD OF 'laws.FnAnyHead'. -/
def fnAnyHeadCard : Claim7 := { stood := { row := fnAnyHeadRow, standIns := [], harness := (true, "bf4a10e59959b4ee9c595b4a25e0297ad152703664386901d7df2b12dd048f92"), looks := true }, kinds := [], alts := [], laidByText := true, laidKinds := [.data, .sentinel, .pinned], laidTests := true, laidLooks := .later }
def FnAnyHeadCardSaid : Prop := Claim7.holds Tryd.pinned (.plain (OpenSpec.ofChange fnAnyHeadSpec)) fnAnyHeadCard

/-- THE TIED CARD OF 'laws.FnClassEmptyRange'. -/
def fnClassEmptyRangeCard : Claim7 := { stood := { row := fnClassEmptyRangeRow, standIns := [], harness := (true, "bf4a10e59959b4ee9c595b4a25e0297ad152703664386901d7df2b12dd048f92"), looks := true }, kinds := [], alts := [], laidByText := true, laidKinds := [.data, .sentinel, .pinned], laidTests := true, laidLooks := .later }
def FnClassEmptyRangeCardSaid : Prop := Claim7.holds Tryd.pinned (.plain (OpenSpec.ofChange fnClassEmptyRangeSpec)) fnClassEmptyRangeCard

/-- THE TIED CARD OF 'laws.FnClassHead'. -/
def fnClassHeadCard : Claim7 := { stood := { row := fnClassHeadRow, standIns := [], harness := (true, "bf4a10e59959b4ee9c595b4a25e0297ad152703664386901d7df2b12dd048f92"), looks := true }, kinds := [], alts := [], laidByText := true, laidKinds := [.data, .sentinel, .pinned], laidTests := true, laidLooks := .later }
def FnClassHeadCardSaid : Prop := Claim7.holds Tryd.pinned (.plain (OpenSpec.ofChange fnClassHeadSpec)) fnClassHeadCard

/-- THE TIED CARD OF 'laws.FnClassLength'. -/
def fnClassLengthCard : Claim7 := { stood := { row := fnClassLengthRow, standIns := [], harness := (true, "bf4a10e59959b4ee9c595b4a25e0297ad152703664386901d7df2b12dd048f92"), looks := true }, kinds := [], alts := [], laidByText := true, laidKinds := [.data, .sentinel, .pinned], laidTests := true, laidLooks := .later }
def FnClassLengthCardSaid : Prop := Claim7.holds Tryd.pinned (.plain (OpenSpec.ofChange fnClassLengthSpec)) fnClassLengthCard

/-- THE TIED CARD OF 'laws.FnClassNot'. -/
def fnClassNotCard : Claim7 := { stood := { row := fnClassNotRow, standIns := [], harness := (true, "bf4a10e59959b4ee9c595b4a25e0297ad152703664386901d7df2b12dd048f92"), looks := true }, kinds := [], alts := [], laidByText := true, laidKinds := [.data, .sentinel, .pinned], laidTests := true, laidLooks := .later }
def FnClassNotCardSaid : Prop := Claim7.holds Tryd.pinned (.plain (OpenSpec.ofChange fnClassNotSpec)) fnClassNotCard

/-- THE TIED CARD OF 'laws.FnClassOne'. -/
def fnClassOneCard : Claim7 := { stood := { row := fnClassOneRow, standIns := [], harness := (true, "bf4a10e59959b4ee9c595b4a25e0297ad152703664386901d7df2b12dd048f92"), looks := true }, kinds := [], alts := [], laidByText := true, laidKinds := [.data, .sentinel, .pinned], laidTests := true, laidLooks := .later }
def FnClassOneCardSaid : Prop := Claim7.holds Tryd.pinned (.plain (OpenSpec.ofChange fnClassOneSpec)) fnClassOneCard

/-- THE TIED CARD OF 'laws.FnClassOrder'. -/
def fnClassOrderCard : Claim7 := { stood := { row := fnClassOrderRow, standIns := [], harness := (true, "bf4a10e59959b4ee9c595b4a25e0297ad152703664386901d7df2b12dd048f92"), looks := true }, kinds := [], alts := [], laidByText := true, laidKinds := [.data, .sentinel, .pinned], laidTests := true, laidLooks := .later }
def FnClassOrderCardSaid : Prop := Claim7.holds Tryd.pinned (.plain (OpenSpec.ofChange fnClassOrderSpec)) fnClassOrderCard

/-- THE TIED CARD OF 'laws.FnClassSlash'. -/
def fnClassSlashCard : Claim7 := { stood := { row := fnClassSlashRow, standIns := [], harness := (true, "bf4a10e59959b4ee9c595b4a25e0297ad152703664386901d7df2b12dd048f92"), looks := true }, kinds := [], alts := [], laidByText := true, laidKinds := [.data, .sentinel, .pinned], laidTests := true, laidLooks := .later }
def FnClassSlashCardSaid : Prop := Claim7.holds Tryd.pinned (.plain (OpenSpec.ofChange fnClassSlashSpec)) fnClassSlashCard

/-- THE TIED CARD OF 'laws.FnJoinMatch'. -/
def fnJoinMatchCard : Claim7 := { stood := { row := fnJoinMatchRow, standIns := [], harness := (true, "bf4a10e59959b4ee9c595b4a25e0297ad152703664386901d7df2b12dd048f92"), looks := true }, kinds := [], alts := [], laidByText := true, laidKinds := [.data, .sentinel, .pinned], laidTests := true, laidLooks := .later }
def FnJoinMatchCardSaid : Prop := Claim7.holds Tryd.pinned (.plain (OpenSpec.ofChange fnJoinMatchSpec)) fnJoinMatchCard

/-- THE TIED CARD OF 'laws.FnClassSpread'. -/
def fnClassSpreadCard : Claim7 := { stood := { row := fnClassSpreadRow, standIns := [], harness := (true, "bf4a10e59959b4ee9c595b4a25e0297ad152703664386901d7df2b12dd048f92"), looks := true }, kinds := [], alts := [], laidByText := true, laidKinds := [.data, .sentinel, .pinned], laidTests := true, laidLooks := .later }
def FnClassSpreadCardSaid : Prop := Claim7.holds Tryd.pinned (.plain (OpenSpec.ofChange fnClassSpreadSpec)) fnClassSpreadCard

/-- THE TIED CARD OF 'laws.FnClassTwice'. -/
def fnClassTwiceCard : Claim7 := { stood := { row := fnClassTwiceRow, standIns := [], harness := (true, "bf4a10e59959b4ee9c595b4a25e0297ad152703664386901d7df2b12dd048f92"), looks := true }, kinds := [], alts := [], laidByText := true, laidKinds := [.data, .sentinel, .pinned], laidTests := true, laidLooks := .later }
def FnClassTwiceCardSaid : Prop := Claim7.holds Tryd.pinned (.plain (OpenSpec.ofChange fnClassTwiceSpec)) fnClassTwiceCard

/-- THE SECOND FORM's CARD OF 'laws.FnMatchBadOpen'. -/
def fnMatchBadOpenUptoCard : Claim7 := { stood := { row := fnMatchBadOpenUptoRow, standIns := [], harness := (true, "bf4a10e59959b4ee9c595b4a25e0297ad152703664386901d7df2b12dd048f92"), looks := true }, kinds := [], alts := [], laidByText := true, laidKinds := [.data, .sentinel, .pinned], laidTests := true, laidLooks := .later }
def FnMatchBadOpenUptoCardSaid : Prop := Claim7.holds Tryd.pinned (.plain (OpenSpec.upto fnMatchBadOpenSpec)) fnMatchBadOpenUptoCard

/-- THE SECOND FORM's CARD OF 'laws.FnAnyHead'. -/
def fnAnyHeadUptoCard : Claim7 := { stood := { row := fnAnyHeadUptoRow, standIns := [], harness := (true, "bf4a10e59959b4ee9c595b4a25e0297ad152703664386901d7df2b12dd048f92"), looks := true }, kinds := [], alts := [], laidByText := true, laidKinds := [.data, .sentinel, .pinned], laidTests := true, laidLooks := .later }
def FnAnyHeadUptoCardSaid : Prop := Claim7.holds Tryd.pinned (.plain (OpenSpec.upto fnAnyHeadSpec)) fnAnyHeadUptoCard

/-- THE SECOND FORM's CARD OF 'laws.FnClassEmptyRange'. -/
def fnClassEmptyRangeUptoCard : Claim7 := { stood := { row := fnClassEmptyRangeUptoRow, standIns := [], harness := (true, "bf4a10e59959b4ee9c595b4a25e0297ad152703664386901d7df2b12dd048f92"), looks := true }, kinds := [], alts := [], laidByText := true, laidKinds := [.data, .sentinel, .pinned], laidTests := true, laidLooks := .later }
def FnClassEmptyRangeUptoCardSaid : Prop := Claim7.holds Tryd.pinned (.plain (OpenSpec.upto fnClassEmptyRangeSpec)) fnClassEmptyRangeUptoCard

/-- THE SECOND FORM's CARD OF 'laws.FnClassHead'. -/
def fnClassHeadUptoCard : Claim7 := { stood := { row := fnClassHeadUptoRow, standIns := [], harness := (true, "bf4a10e59959b4ee9c595b4a25e0297ad152703664386901d7df2b12dd048f92"), looks := true }, kinds := [], alts := [], laidByText := true, laidKinds := [.data, .sentinel, .pinned], laidTests := true, laidLooks := .later }
def FnClassHeadUptoCardSaid : Prop := Claim7.holds Tryd.pinned (.plain (OpenSpec.upto fnClassHeadSpec)) fnClassHeadUptoCard

/-- THE SECOND FORM's CARD OF 'laws.FnClassLength'. -/
def fnClassLengthUptoCard : Claim7 := { stood := { row := fnClassLengthUptoRow, standIns := [], harness := (true, "bf4a10e59959b4ee9c595b4a25e0297ad152703664386901d7df2b12dd048f92"), looks := true }, kinds := [], alts := [], laidByText := true, laidKinds := [.data, .sentinel, .pinned], laidTests := true, laidLooks := .later }
def FnClassLengthUptoCardSaid : Prop := Claim7.holds Tryd.pinned (.plain (OpenSpec.upto fnClassLengthSpec)) fnClassLengthUptoCard

/-- THE SECOND FORM's CARD OF 'laws.FnClassNot'. -/
def fnClassNotUptoCard : Claim7 := { stood := { row := fnClassNotUptoRow, standIns := [], harness := (true, "bf4a10e59959b4ee9c595b4a25e0297ad152703664386901d7df2b12dd048f92"), looks := true }, kinds := [], alts := [], laidByText := true, laidKinds := [.data, .sentinel, .pinned], laidTests := true, laidLooks := .later }
def FnClassNotUptoCardSaid : Prop := Claim7.holds Tryd.pinned (.plain (OpenSpec.upto fnClassNotSpec)) fnClassNotUptoCard

/-- THE SECOND FORM's CARD OF 'laws.FnClassOne'. -/
def fnClassOneUptoCard : Claim7 := { stood := { row := fnClassOneUptoRow, standIns := [], harness := (true, "bf4a10e59959b4ee9c595b4a25e0297ad152703664386901d7df2b12dd048f92"), looks := true }, kinds := [], alts := [], laidByText := true, laidKinds := [.data, .sentinel, .pinned], laidTests := true, laidLooks := .later }
def FnClassOneUptoCardSaid : Prop := Claim7.holds Tryd.pinned (.plain (OpenSpec.upto fnClassOneSpec)) fnClassOneUptoCard

/-- THE SECOND FORM's CARD OF 'laws.FnClassOrder'. -/
def fnClassOrderUptoCard : Claim7 := { stood := { row := fnClassOrderUptoRow, standIns := [], harness := (true, "bf4a10e59959b4ee9c595b4a25e0297ad152703664386901d7df2b12dd048f92"), looks := true }, kinds := [], alts := [], laidByText := true, laidKinds := [.data, .sentinel, .pinned], laidTests := true, laidLooks := .later }
def FnClassOrderUptoCardSaid : Prop := Claim7.holds Tryd.pinned (.plain (OpenSpec.upto fnClassOrderSpec)) fnClassOrderUptoCard

/-- THE SECOND FORM's CARD OF 'laws.FnClassSlash'. -/
def fnClassSlashUptoCard : Claim7 := { stood := { row := fnClassSlashUptoRow, standIns := [], harness := (true, "bf4a10e59959b4ee9c595b4a25e0297ad152703664386901d7df2b12dd048f92"), looks := true }, kinds := [], alts := [], laidByText := true, laidKinds := [.data, .sentinel, .pinned], laidTests := true, laidLooks := .later }
def FnClassSlashUptoCardSaid : Prop := Claim7.holds Tryd.pinned (.plain (OpenSpec.upto fnClassSlashSpec)) fnClassSlashUptoCard

/-- THE SECOND FORM's CARD OF 'laws.FnJoinMatch'. -/
def fnJoinMatchUptoCard : Claim7 := { stood := { row := fnJoinMatchUptoRow, standIns := [], harness := (true, "bf4a10e59959b4ee9c595b4a25e0297ad152703664386901d7df2b12dd048f92"), looks := true }, kinds := [], alts := [], laidByText := true, laidKinds := [.data, .sentinel, .pinned], laidTests := true, laidLooks := .later }
def FnJoinMatchUptoCardSaid : Prop := Claim7.holds Tryd.pinned (.plain (OpenSpec.upto fnJoinMatchSpec)) fnJoinMatchUptoCard

/-- THE SECOND FORM's CARD OF 'laws.FnClassSpread'. -/
def fnClassSpreadUptoCard : Claim7 := { stood := { row := fnClassSpreadUptoRow, standIns := [], harness := (true, "bf4a10e59959b4ee9c595b4a25e0297ad152703664386901d7df2b12dd048f92"), looks := true }, kinds := [], alts := [], laidByText := true, laidKinds := [.data, .sentinel, .pinned], laidTests := true, laidLooks := .later }
def FnClassSpreadUptoCardSaid : Prop := Claim7.holds Tryd.pinned (.plain (OpenSpec.upto fnClassSpreadSpec)) fnClassSpreadUptoCard

/-- THE SECOND FORM's CARD OF 'laws.FnClassTwice'. -/
def fnClassTwiceUptoCard : Claim7 := { stood := { row := fnClassTwiceUptoRow, standIns := [], harness := (true, "bf4a10e59959b4ee9c595b4a25e0297ad152703664386901d7df2b12dd048f92"), looks := true }, kinds := [], alts := [], laidByText := true, laidKinds := [.data, .sentinel, .pinned], laidTests := true, laidLooks := .later }
def FnClassTwiceUptoCardSaid : Prop := Claim7.holds Tryd.pinned (.plain (OpenSpec.upto fnClassTwiceSpec)) fnClassTwiceUptoCard
end Rows
end Go.Proofs.YtiibjjhjbbidoaaDoor

/-
  DERIVED. GIVEN WITH THE SEED: THE CARDS: each row of YtgdkepjimhmdbaaDoorRows.lean that lists a variable, with what it lists TIED to the program's text (the seventh form; the later family's looks); each row that meets fmt, with fmt's text TOLD by the authors' own Lean function (tested against real Go, not proved from fmt's source: count such statements apart). THE CARD IS WHAT COUNTS. Prove the row's statement (the work); the ties are given (YtgdkepjimhmdbaaDoorTie.lean); close each card by the builder's one call (the guide's Derived/Test/ToyasCard.lean, 'card_holds'). Laid BY PROGRAM, IN A SANDBOX (cutbox-door.mjs). By AI agents, Wed Nov 11 2026. No macro, syntax, notation, axiom, sorry.
-/
import Derived.Test.YtgdkepjimhmdbaaDoorRows
import GoSem.ClaimSeven
namespace Go.Proofs.YtgdkepjimhmdbaaDoor
namespace Rows

/-- THE TIED CARD OF 'laws.FnStarTwiceBytes'. -/
def fnStarTwiceBytesCard : Claim7 := { stood := { row := fnStarTwiceBytesRow, standIns := [], harness := (true, "aad76a51ee429663bde21ae943c82a80744d149e975b6cbc65a5753ec1313f80"), looks := true }, kinds := [], alts := [], laidByText := true, laidKinds := [.data, .sentinel, .pinned], laidTests := true, laidLooks := .later }
def FnStarTwiceBytesCardSaid : Prop := Claim7.holds Tryd.pinned (.plain (OpenSpec.ofChange fnStarTwiceBytesSpec)) fnStarTwiceBytesCard

/-- THE TIED CARD OF 'laws.FnWrittenBytes'. -/
def fnWrittenBytesCard : Claim7 := { stood := { row := fnWrittenBytesRow, standIns := [], harness := (true, "aad76a51ee429663bde21ae943c82a80744d149e975b6cbc65a5753ec1313f80"), looks := true }, kinds := [], alts := [], laidByText := true, laidKinds := [.data, .sentinel, .pinned], laidTests := true, laidLooks := .later }
def FnWrittenBytesCardSaid : Prop := Claim7.holds Tryd.pinned (.plain (OpenSpec.ofChange fnWrittenBytesSpec)) fnWrittenBytesCard

/-- THE TIED CARD OF 'laws.FnMatchBadName'. -/
def fnMatchBadNameCard : Claim7 := { stood := { row := fnMatchBadNameRow, standIns := [], harness := (true, "aad76a51ee429663bde21ae943c82a80744d149e975b6cbc65a5753ec1313f80"), looks := true }, kinds := [], alts := [], laidByText := true, laidKinds := [.data, .sentinel, .pinned], laidTests := true, laidLooks := .later }
def FnMatchBadNameCardSaid : Prop := Claim7.holds Tryd.pinned (.plain (OpenSpec.ofChange fnMatchBadNameSpec)) fnMatchBadNameCard

/-- THE TIED CARD OF 'laws.FnMatchBadTail'. -/
def fnMatchBadTailCard : Claim7 := { stood := { row := fnMatchBadTailRow, standIns := [], harness := (true, "aad76a51ee429663bde21ae943c82a80744d149e975b6cbc65a5753ec1313f80"), looks := true }, kinds := [], alts := [], laidByText := true, laidKinds := [.data, .sentinel, .pinned], laidTests := true, laidLooks := .later }
def FnMatchBadTailCardSaid : Prop := Claim7.holds Tryd.pinned (.plain (OpenSpec.ofChange fnMatchBadTailSpec)) fnMatchBadTailCard

/-- THE TIED CARD OF 'laws.FnQuoteHeadOther'. -/
def fnQuoteHeadOtherCard : Claim7 := { stood := { row := fnQuoteHeadOtherRow, standIns := [], harness := (true, "aad76a51ee429663bde21ae943c82a80744d149e975b6cbc65a5753ec1313f80"), looks := true }, kinds := [], alts := [], laidByText := true, laidKinds := [.data, .sentinel, .pinned], laidTests := true, laidLooks := .later }
def FnQuoteHeadOtherCardSaid : Prop := Claim7.holds Tryd.pinned (.plain (OpenSpec.ofChange fnQuoteHeadOtherSpec)) fnQuoteHeadOtherCard

/-- THE TIED CARD OF 'laws.FnSplitMatch'. -/
def fnSplitMatchCard : Claim7 := { stood := { row := fnSplitMatchRow, standIns := [], harness := (true, "aad76a51ee429663bde21ae943c82a80744d149e975b6cbc65a5753ec1313f80"), looks := true }, kinds := [], alts := [], laidByText := true, laidKinds := [.data, .sentinel, .pinned], laidTests := true, laidLooks := .later }
def FnSplitMatchCardSaid : Prop := Claim7.holds Tryd.pinned (.plain (OpenSpec.ofChange fnSplitMatchSpec)) fnSplitMatchCard

/-- THE TIED CARD OF 'laws.FnSplitWhole'. -/
def fnSplitWholeCard : Claim7 := { stood := { row := fnSplitWholeRow, standIns := [], harness := (true, "aad76a51ee429663bde21ae943c82a80744d149e975b6cbc65a5753ec1313f80"), looks := true }, kinds := [], alts := [], laidByText := true, laidKinds := [.data, .sentinel, .pinned], laidTests := true, laidLooks := .later }
def FnSplitWholeCardSaid : Prop := Claim7.holds Tryd.pinned (.plain (OpenSpec.ofChange fnSplitWholeSpec)) fnSplitWholeCard

/-- THE TIED CARD OF 'laws.FnExtStar'. -/
def fnExtStarCard : Claim7 := { stood := { row := fnExtStarRow, standIns := [], harness := (true, "aad76a51ee429663bde21ae943c82a80744d149e975b6cbc65a5753ec1313f80"), looks := true }, kinds := [], alts := [], laidByText := true, laidKinds := [.data, .sentinel, .pinned], laidTests := true, laidLooks := .later }
def FnExtStarCardSaid : Prop := Claim7.holds Tryd.pinned (.plain (OpenSpec.ofChange fnExtStarSpec)) fnExtStarCard

/-- THE TIED CARD OF 'laws.FnCleanMatch'. -/
def fnCleanMatchCard : Claim7 := { stood := { row := fnCleanMatchRow, standIns := [], harness := (true, "aad76a51ee429663bde21ae943c82a80744d149e975b6cbc65a5753ec1313f80"), looks := true }, kinds := [], alts := [], laidByText := true, laidKinds := [.data, .sentinel, .pinned], laidTests := true, laidLooks := .later }
def FnCleanMatchCardSaid : Prop := Claim7.holds Tryd.pinned (.plain (OpenSpec.ofChange fnCleanMatchSpec)) fnCleanMatchCard

/-- THE TIED CARD OF 'laws.FnStarAloneBytes'. -/
def fnStarAloneBytesCard : Claim7 := { stood := { row := fnStarAloneBytesRow, standIns := [], harness := (true, "aad76a51ee429663bde21ae943c82a80744d149e975b6cbc65a5753ec1313f80"), looks := true }, kinds := [], alts := [], laidByText := true, laidKinds := [.data, .sentinel, .pinned], laidTests := true, laidLooks := .later }
def FnStarAloneBytesCardSaid : Prop := Claim7.holds Tryd.pinned (.plain (OpenSpec.ofChange fnStarAloneBytesSpec)) fnStarAloneBytesCard

/-- THE TIED CARD OF 'laws.FnExtEnd'. -/
def fnExtEndCard : Claim7 := { stood := { row := fnExtEndRow, standIns := [], harness := (true, "aad76a51ee429663bde21ae943c82a80744d149e975b6cbc65a5753ec1313f80"), looks := true }, kinds := [], alts := [], laidByText := true, laidKinds := [.data, .sentinel, .pinned], laidTests := true, laidLooks := .later }
def FnExtEndCardSaid : Prop := Claim7.holds Tryd.pinned (.plain (OpenSpec.ofChange fnExtEndSpec)) fnExtEndCard

/-- THE TIED CARD OF 'laws.FnExactClean'. -/
def fnExactCleanCard : Claim7 := { stood := { row := fnExactCleanRow, standIns := [], harness := (true, "aad76a51ee429663bde21ae943c82a80744d149e975b6cbc65a5753ec1313f80"), looks := true }, kinds := [], alts := [], laidByText := true, laidKinds := [.data, .pinned], laidTests := true, laidLooks := .later }
def FnExactCleanCardSaid : Prop := Claim7.holds Tryd.pinned (.plain (OpenSpec.ofChange fnExactCleanSpec)) fnExactCleanCard

/-- THE SECOND FORM's CARD OF 'laws.FnStarTwiceBytes'. -/
def fnStarTwiceBytesUptoCard : Claim7 := { stood := { row := fnStarTwiceBytesUptoRow, standIns := [], harness := (true, "aad76a51ee429663bde21ae943c82a80744d149e975b6cbc65a5753ec1313f80"), looks := true }, kinds := [], alts := [], laidByText := true, laidKinds := [.data, .sentinel, .pinned], laidTests := true, laidLooks := .later }
def FnStarTwiceBytesUptoCardSaid : Prop := Claim7.holds Tryd.pinned (.plain (OpenSpec.upto fnStarTwiceBytesSpec)) fnStarTwiceBytesUptoCard

/-- THE SECOND FORM's CARD OF 'laws.FnWrittenBytes'. -/
def fnWrittenBytesUptoCard : Claim7 := { stood := { row := fnWrittenBytesUptoRow, standIns := [], harness := (true, "aad76a51ee429663bde21ae943c82a80744d149e975b6cbc65a5753ec1313f80"), looks := true }, kinds := [], alts := [], laidByText := true, laidKinds := [.data, .sentinel, .pinned], laidTests := true, laidLooks := .later }
def FnWrittenBytesUptoCardSaid : Prop := Claim7.holds Tryd.pinned (.plain (OpenSpec.upto fnWrittenBytesSpec)) fnWrittenBytesUptoCard

/-- THE SECOND FORM's CARD OF 'laws.FnMatchBadName'. -/
def fnMatchBadNameUptoCard : Claim7 := { stood := { row := fnMatchBadNameUptoRow, standIns := [], harness := (true, "aad76a51ee429663bde21ae943c82a80744d149e975b6cbc65a5753ec1313f80"), looks := true }, kinds := [], alts := [], laidByText := true, laidKinds := [.data, .sentinel, .pinned], laidTests := true, laidLooks := .later }
def FnMatchBadNameUptoCardSaid : Prop := Claim7.holds Tryd.pinned (.plain (OpenSpec.upto fnMatchBadNameSpec)) fnMatchBadNameUptoCard

/-- THE SECOND FORM's CARD OF 'laws.FnMatchBadTail'. -/
def fnMatchBadTailUptoCard : Claim7 := { stood := { row := fnMatchBadTailUptoRow, standIns := [], harness := (true, "aad76a51ee429663bde21ae943c82a80744d149e975b6cbc65a5753ec1313f80"), looks := true }, kinds := [], alts := [], laidByText := true, laidKinds := [.data, .sentinel, .pinned], laidTests := true, laidLooks := .later }
def FnMatchBadTailUptoCardSaid : Prop := Claim7.holds Tryd.pinned (.plain (OpenSpec.upto fnMatchBadTailSpec)) fnMatchBadTailUptoCard

/-- THE SECOND FORM's CARD OF 'laws.FnQuoteHeadOther'. -/
def fnQuoteHeadOtherUptoCard : Claim7 := { stood := { row := fnQuoteHeadOtherUptoRow, standIns := [], harness := (true, "aad76a51ee429663bde21ae943c82a80744d149e975b6cbc65a5753ec1313f80"), looks := true }, kinds := [], alts := [], laidByText := true, laidKinds := [.data, .sentinel, .pinned], laidTests := true, laidLooks := .later }
def FnQuoteHeadOtherUptoCardSaid : Prop := Claim7.holds Tryd.pinned (.plain (OpenSpec.upto fnQuoteHeadOtherSpec)) fnQuoteHeadOtherUptoCard

/-- THE SECOND FORM's CARD OF 'laws.FnSplitMatch'. -/
def fnSplitMatchUptoCard : Claim7 := { stood := { row := fnSplitMatchUptoRow, standIns := [], harness := (true, "aad76a51ee429663bde21ae943c82a80744d149e975b6cbc65a5753ec1313f80"), looks := true }, kinds := [], alts := [], laidByText := true, laidKinds := [.data, .sentinel, .pinned], laidTests := true, laidLooks := .later }
def FnSplitMatchUptoCardSaid : Prop := Claim7.holds Tryd.pinned (.plain (OpenSpec.upto fnSplitMatchSpec)) fnSplitMatchUptoCard

/-- THE SECOND FORM's CARD OF 'laws.FnSplitWhole'. -/
def fnSplitWholeUptoCard : Claim7 := { stood := { row := fnSplitWholeUptoRow, standIns := [], harness := (true, "aad76a51ee429663bde21ae943c82a80744d149e975b6cbc65a5753ec1313f80"), looks := true }, kinds := [], alts := [], laidByText := true, laidKinds := [.data, .sentinel, .pinned], laidTests := true, laidLooks := .later }
def FnSplitWholeUptoCardSaid : Prop := Claim7.holds Tryd.pinned (.plain (OpenSpec.upto fnSplitWholeSpec)) fnSplitWholeUptoCard

/-- THE SECOND FORM's CARD OF 'laws.FnExtStar'. -/
def fnExtStarUptoCard : Claim7 := { stood := { row := fnExtStarUptoRow, standIns := [], harness := (true, "aad76a51ee429663bde21ae943c82a80744d149e975b6cbc65a5753ec1313f80"), looks := true }, kinds := [], alts := [], laidByText := true, laidKinds := [.data, .sentinel, .pinned], laidTests := true, laidLooks := .later }
def FnExtStarUptoCardSaid : Prop := Claim7.holds Tryd.pinned (.plain (OpenSpec.upto fnExtStarSpec)) fnExtStarUptoCard

/-- THE SECOND FORM's CARD OF 'laws.FnCleanMatch'. -/
def fnCleanMatchUptoCard : Claim7 := { stood := { row := fnCleanMatchUptoRow, standIns := [], harness := (true, "aad76a51ee429663bde21ae943c82a80744d149e975b6cbc65a5753ec1313f80"), looks := true }, kinds := [], alts := [], laidByText := true, laidKinds := [.data, .sentinel, .pinned], laidTests := true, laidLooks := .later }
def FnCleanMatchUptoCardSaid : Prop := Claim7.holds Tryd.pinned (.plain (OpenSpec.upto fnCleanMatchSpec)) fnCleanMatchUptoCard

/-- THE SECOND FORM's CARD OF 'laws.FnStarAloneBytes'. -/
def fnStarAloneBytesUptoCard : Claim7 := { stood := { row := fnStarAloneBytesUptoRow, standIns := [], harness := (true, "aad76a51ee429663bde21ae943c82a80744d149e975b6cbc65a5753ec1313f80"), looks := true }, kinds := [], alts := [], laidByText := true, laidKinds := [.data, .sentinel, .pinned], laidTests := true, laidLooks := .later }
def FnStarAloneBytesUptoCardSaid : Prop := Claim7.holds Tryd.pinned (.plain (OpenSpec.upto fnStarAloneBytesSpec)) fnStarAloneBytesUptoCard

/-- THE SECOND FORM's CARD OF 'laws.FnExtEnd'. -/
def fnExtEndUptoCard : Claim7 := { stood := { row := fnExtEndUptoRow, standIns := [], harness := (true, "aad76a51ee429663bde21ae943c82a80744d149e975b6cbc65a5753ec1313f80"), looks := true }, kinds := [], alts := [], laidByText := true, laidKinds := [.data, .sentinel, .pinned], laidTests := true, laidLooks := .later }
def FnExtEndUptoCardSaid : Prop := Claim7.holds Tryd.pinned (.plain (OpenSpec.upto fnExtEndSpec)) fnExtEndUptoCard

/-- THE SECOND FORM's CARD OF 'laws.FnExactClean'. -/
def fnExactCleanUptoCard : Claim7 := { stood := { row := fnExactCleanUptoRow, standIns := [], harness := (true, "aad76a51ee429663bde21ae943c82a80744d149e975b6cbc65a5753ec1313f80"), looks := true }, kinds := [], alts := [], laidByText := true, laidKinds := [.data, .pinned], laidTests := true, laidLooks := .later }
def FnExactCleanUptoCardSaid : Prop := Claim7.holds Tryd.pinned (.plain (OpenSpec.upto fnExactCleanSpec)) fnExactCleanUptoCard
end Rows
end Go.Proofs.YtgdkepjimhmdbaaDoor

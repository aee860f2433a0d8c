/-
  DERIVED. GIVEN WITH THE SEED: THE CARDS: each row of YtgpcnckiabjefaaDoorRows.lean that lists a variable, with what it lists TIED to the program's text (the seventh form; the later family's looks); each row that meets fmt, with fmt's text TOLD by the authors' own Lean function (tested against real Go, not proved from fmt's source: count such statements apart). THE CARD IS WHAT COUNTS. Prove the row's statement (the work); the ties are given (YtgpcnckiabjefaaDoorTie.lean); close each card by the builder's one call (the guide's Derived/Test/ToyasCard.lean, 'card_holds'). Laid BY PROGRAM, IN A SANDBOX (cutbox-door.mjs). By AI agents, Wed Nov 11 2026. No macro, syntax, notation, axiom, sorry.
-/
import Derived.Test.YtgpcnckiabjefaaDoorRows
import GoSem.ClaimSeven
namespace Go.Proofs.YtgpcnckiabjefaaDoor
namespace Rows

/-- THE TIED CARD OF 'laws.FnClassUnion'. -/
def fnClassUnionCard : Claim7 := { stood := { row := fnClassUnionRow, standIns := [], harness := (true, "3432b8f7cb723aa9fb1ce2ac5596410d2b7ffaa207aeda72fa82228864224dd5"), looks := true }, kinds := [], alts := [], laidByText := true, laidKinds := [.data, .sentinel, .pinned], laidTests := true, laidLooks := .later }
def FnClassUnionCardSaid : Prop := Claim7.holds Tryd.pinned (.plain (OpenSpec.ofChange fnClassUnionSpec)) fnClassUnionCard

/-- THE TIED CARD OF 'laws.FnEmptyName'. -/
def fnEmptyNameCard : Claim7 := { stood := { row := fnEmptyNameRow, standIns := [], harness := (true, "3432b8f7cb723aa9fb1ce2ac5596410d2b7ffaa207aeda72fa82228864224dd5"), looks := true }, kinds := [], alts := [], laidByText := true, laidKinds := [.data, .sentinel, .pinned], laidTests := true, laidLooks := .later }
def FnEmptyNameCardSaid : Prop := Claim7.holds Tryd.pinned (.plain (OpenSpec.ofChange fnEmptyNameSpec)) fnEmptyNameCard

/-- THE TIED CARD OF 'laws.FnExchanged'. -/
def fnExchangedCard : Claim7 := { stood := { row := fnExchangedRow, standIns := [], harness := (true, "3432b8f7cb723aa9fb1ce2ac5596410d2b7ffaa207aeda72fa82228864224dd5"), looks := true }, kinds := [], alts := [], laidByText := true, laidKinds := [.data, .sentinel, .pinned], laidTests := true, laidLooks := .later }
def FnExchangedCardSaid : Prop := Claim7.holds Tryd.pinned (.plain (OpenSpec.ofChange fnExchangedSpec)) fnExchangedCard

/-- THE TIED CARD OF 'laws.FnMatchEscaped'. -/
def fnMatchEscapedCard : Claim7 := { stood := { row := fnMatchEscapedRow, standIns := [], harness := (true, "3432b8f7cb723aa9fb1ce2ac5596410d2b7ffaa207aeda72fa82228864224dd5"), looks := true }, kinds := [], alts := [], laidByText := true, laidKinds := [.data, .sentinel, .pinned], laidTests := true, laidLooks := .later }
def FnMatchEscapedCardSaid : Prop := Claim7.holds Tryd.pinned (.plain (OpenSpec.ofChange fnMatchEscapedSpec)) fnMatchEscapedCard

/-- THE TIED CARD OF 'laws.FnMatchSound'. -/
def fnMatchSoundCard : Claim7 := { stood := { row := fnMatchSoundRow, standIns := [], harness := (true, "3432b8f7cb723aa9fb1ce2ac5596410d2b7ffaa207aeda72fa82228864224dd5"), looks := true }, kinds := [], alts := [], laidByText := true, laidKinds := [.data, .sentinel, .pinned], laidTests := true, laidLooks := .later }
def FnMatchSoundCardSaid : Prop := Claim7.holds Tryd.pinned (.plain (OpenSpec.ofChange fnMatchSoundSpec)) fnMatchSoundCard

/-- THE TIED CARD OF 'laws.FnMatchWritten'. -/
def fnMatchWrittenCard : Claim7 := { stood := { row := fnMatchWrittenRow, standIns := [], harness := (true, "3432b8f7cb723aa9fb1ce2ac5596410d2b7ffaa207aeda72fa82228864224dd5"), looks := true }, kinds := [], alts := [], laidByText := true, laidKinds := [.data, .sentinel, .pinned], laidTests := true, laidLooks := .later }
def FnMatchWrittenCardSaid : Prop := Claim7.holds Tryd.pinned (.plain (OpenSpec.ofChange fnMatchWrittenSpec)) fnMatchWrittenCard

/-- THE TIED CARD OF 'laws.FnNameLength'. -/
def fnNameLengthCard : Claim7 := { stood := { row := fnNameLengthRow, standIns := [], harness := (true, "3432b8f7cb723aa9fb1ce2ac5596410d2b7ffaa207aeda72fa82228864224dd5"), looks := true }, kinds := [], alts := [], laidByText := true, laidKinds := [.data, .sentinel, .pinned], laidTests := true, laidLooks := .later }
def FnNameLengthCardSaid : Prop := Claim7.holds Tryd.pinned (.plain (OpenSpec.ofChange fnNameLengthSpec)) fnNameLengthCard

/-- THE TIED CARD OF 'laws.FnNoStar'. -/
def fnNoStarCard : Claim7 := { stood := { row := fnNoStarRow, standIns := [], harness := (true, "3432b8f7cb723aa9fb1ce2ac5596410d2b7ffaa207aeda72fa82228864224dd5"), looks := true }, kinds := [], alts := [], laidByText := true, laidKinds := [.data, .sentinel, .pinned], laidTests := true, laidLooks := .later }
def FnNoStarCardSaid : Prop := Claim7.holds Tryd.pinned (.plain (OpenSpec.ofChange fnNoStarSpec)) fnNoStarCard

/-- THE TIED CARD OF 'laws.FnPlainSelf'. -/
def fnPlainSelfCard : Claim7 := { stood := { row := fnPlainSelfRow, standIns := [], harness := (true, "3432b8f7cb723aa9fb1ce2ac5596410d2b7ffaa207aeda72fa82228864224dd5"), looks := true }, kinds := [], alts := [], laidByText := true, laidKinds := [.data, .sentinel, .pinned], laidTests := true, laidLooks := .later }
def FnPlainSelfCardSaid : Prop := Claim7.holds Tryd.pinned (.plain (OpenSpec.ofChange fnPlainSelfSpec)) fnPlainSelfCard

/-- THE TIED CARD OF 'laws.FnQuoteHead'. -/
def fnQuoteHeadCard : Claim7 := { stood := { row := fnQuoteHeadRow, standIns := [], harness := (true, "3432b8f7cb723aa9fb1ce2ac5596410d2b7ffaa207aeda72fa82228864224dd5"), looks := true }, kinds := [], alts := [], laidByText := true, laidKinds := [.data, .sentinel, .pinned], laidTests := true, laidLooks := .later }
def FnQuoteHeadCardSaid : Prop := Claim7.holds Tryd.pinned (.plain (OpenSpec.ofChange fnQuoteHeadSpec)) fnQuoteHeadCard

/-- THE TIED CARD OF 'laws.FnQuoteSelf'. -/
def fnQuoteSelfCard : Claim7 := { stood := { row := fnQuoteSelfRow, standIns := [], harness := (true, "3432b8f7cb723aa9fb1ce2ac5596410d2b7ffaa207aeda72fa82228864224dd5"), looks := true }, kinds := [], alts := [], laidByText := true, laidKinds := [.data, .sentinel, .pinned], laidTests := true, laidLooks := .later }
def FnQuoteSelfCardSaid : Prop := Claim7.holds Tryd.pinned (.plain (OpenSpec.ofChange fnQuoteSelfSpec)) fnQuoteSelfCard

/-- THE TIED CARD OF 'laws.FnStarTwice'. -/
def fnStarTwiceCard : Claim7 := { stood := { row := fnStarTwiceRow, standIns := [], harness := (true, "3432b8f7cb723aa9fb1ce2ac5596410d2b7ffaa207aeda72fa82228864224dd5"), looks := true }, kinds := [], alts := [], laidByText := true, laidKinds := [.data, .sentinel, .pinned], laidTests := true, laidLooks := .later }
def FnStarTwiceCardSaid : Prop := Claim7.holds Tryd.pinned (.plain (OpenSpec.ofChange fnStarTwiceSpec)) fnStarTwiceCard

/-- THE SECOND FORM's CARD OF 'laws.FnClassUnion'. -/
def fnClassUnionUptoCard : Claim7 := { stood := { row := fnClassUnionUptoRow, standIns := [], harness := (true, "3432b8f7cb723aa9fb1ce2ac5596410d2b7ffaa207aeda72fa82228864224dd5"), looks := true }, kinds := [], alts := [], laidByText := true, laidKinds := [.data, .sentinel, .pinned], laidTests := true, laidLooks := .later }
def FnClassUnionUptoCardSaid : Prop := Claim7.holds Tryd.pinned (.plain (OpenSpec.upto fnClassUnionSpec)) fnClassUnionUptoCard

/-- THE SECOND FORM's CARD OF 'laws.FnEmptyName'. -/
def fnEmptyNameUptoCard : Claim7 := { stood := { row := fnEmptyNameUptoRow, standIns := [], harness := (true, "3432b8f7cb723aa9fb1ce2ac5596410d2b7ffaa207aeda72fa82228864224dd5"), looks := true }, kinds := [], alts := [], laidByText := true, laidKinds := [.data, .sentinel, .pinned], laidTests := true, laidLooks := .later }
def FnEmptyNameUptoCardSaid : Prop := Claim7.holds Tryd.pinned (.plain (OpenSpec.upto fnEmptyNameSpec)) fnEmptyNameUptoCard

/-- THE SECOND FORM's CARD OF 'laws.FnExchanged'. -/
def fnExchangedUptoCard : Claim7 := { stood := { row := fnExchangedUptoRow, standIns := [], harness := (true, "3432b8f7cb723aa9fb1ce2ac5596410d2b7ffaa207aeda72fa82228864224dd5"), looks := true }, kinds := [], alts := [], laidByText := true, laidKinds := [.data, .sentinel, .pinned], laidTests := true, laidLooks := .later }
def FnExchangedUptoCardSaid : Prop := Claim7.holds Tryd.pinned (.plain (OpenSpec.upto fnExchangedSpec)) fnExchangedUptoCard

/-- THE SECOND FORM's CARD OF 'laws.FnMatchEscaped'. -/
def fnMatchEscapedUptoCard : Claim7 := { stood := { row := fnMatchEscapedUptoRow, standIns := [], harness := (true, "3432b8f7cb723aa9fb1ce2ac5596410d2b7ffaa207aeda72fa82228864224dd5"), looks := true }, kinds := [], alts := [], laidByText := true, laidKinds := [.data, .sentinel, .pinned], laidTests := true, laidLooks := .later }
def FnMatchEscapedUptoCardSaid : Prop := Claim7.holds Tryd.pinned (.plain (OpenSpec.upto fnMatchEscapedSpec)) fnMatchEscapedUptoCard

/-- THE SECOND FORM's CARD OF 'laws.FnMatchSound'. -/
def fnMatchSoundUptoCard : Claim7 := { stood := { row := fnMatchSoundUptoRow, standIns := [], harness := (true, "3432b8f7cb723aa9fb1ce2ac5596410d2b7ffaa207aeda72fa82228864224dd5"), looks := true }, kinds := [], alts := [], laidByText := true, laidKinds := [.data, .sentinel, .pinned], laidTests := true, laidLooks := .later }
def FnMatchSoundUptoCardSaid : Prop := Claim7.holds Tryd.pinned (.plain (OpenSpec.upto fnMatchSoundSpec)) fnMatchSoundUptoCard

/-- THE SECOND FORM's CARD OF 'laws.FnMatchWritten'. -/
def fnMatchWrittenUptoCard : Claim7 := { stood := { row := fnMatchWrittenUptoRow, standIns := [], harness := (true, "3432b8f7cb723aa9fb1ce2ac5596410d2b7ffaa207aeda72fa82228864224dd5"), looks := true }, kinds := [], alts := [], laidByText := true, laidKinds := [.data, .sentinel, .pinned], laidTests := true, laidLooks := .later }
def FnMatchWrittenUptoCardSaid : Prop := Claim7.holds Tryd.pinned (.plain (OpenSpec.upto fnMatchWrittenSpec)) fnMatchWrittenUptoCard

/-- THE SECOND FORM's CARD OF 'laws.FnNameLength'. -/
def fnNameLengthUptoCard : Claim7 := { stood := { row := fnNameLengthUptoRow, standIns := [], harness := (true, "3432b8f7cb723aa9fb1ce2ac5596410d2b7ffaa207aeda72fa82228864224dd5"), looks := true }, kinds := [], alts := [], laidByText := true, laidKinds := [.data, .sentinel, .pinned], laidTests := true, laidLooks := .later }
def FnNameLengthUptoCardSaid : Prop := Claim7.holds Tryd.pinned (.plain (OpenSpec.upto fnNameLengthSpec)) fnNameLengthUptoCard

/-- THE SECOND FORM's CARD OF 'laws.FnNoStar'. -/
def fnNoStarUptoCard : Claim7 := { stood := { row := fnNoStarUptoRow, standIns := [], harness := (true, "3432b8f7cb723aa9fb1ce2ac5596410d2b7ffaa207aeda72fa82228864224dd5"), looks := true }, kinds := [], alts := [], laidByText := true, laidKinds := [.data, .sentinel, .pinned], laidTests := true, laidLooks := .later }
def FnNoStarUptoCardSaid : Prop := Claim7.holds Tryd.pinned (.plain (OpenSpec.upto fnNoStarSpec)) fnNoStarUptoCard

/-- THE SECOND FORM's CARD OF 'laws.FnPlainSelf'. -/
def fnPlainSelfUptoCard : Claim7 := { stood := { row := fnPlainSelfUptoRow, standIns := [], harness := (true, "3432b8f7cb723aa9fb1ce2ac5596410d2b7ffaa207aeda72fa82228864224dd5"), looks := true }, kinds := [], alts := [], laidByText := true, laidKinds := [.data, .sentinel, .pinned], laidTests := true, laidLooks := .later }
def FnPlainSelfUptoCardSaid : Prop := Claim7.holds Tryd.pinned (.plain (OpenSpec.upto fnPlainSelfSpec)) fnPlainSelfUptoCard

/-- THE SECOND FORM's CARD OF 'laws.FnQuoteHead'. -/
def fnQuoteHeadUptoCard : Claim7 := { stood := { row := fnQuoteHeadUptoRow, standIns := [], harness := (true, "3432b8f7cb723aa9fb1ce2ac5596410d2b7ffaa207aeda72fa82228864224dd5"), looks := true }, kinds := [], alts := [], laidByText := true, laidKinds := [.data, .sentinel, .pinned], laidTests := true, laidLooks := .later }
def FnQuoteHeadUptoCardSaid : Prop := Claim7.holds Tryd.pinned (.plain (OpenSpec.upto fnQuoteHeadSpec)) fnQuoteHeadUptoCard

/-- THE SECOND FORM's CARD OF 'laws.FnQuoteSelf'. -/
def fnQuoteSelfUptoCard : Claim7 := { stood := { row := fnQuoteSelfUptoRow, standIns := [], harness := (true, "3432b8f7cb723aa9fb1ce2ac5596410d2b7ffaa207aeda72fa82228864224dd5"), looks := true }, kinds := [], alts := [], laidByText := true, laidKinds := [.data, .sentinel, .pinned], laidTests := true, laidLooks := .later }
def FnQuoteSelfUptoCardSaid : Prop := Claim7.holds Tryd.pinned (.plain (OpenSpec.upto fnQuoteSelfSpec)) fnQuoteSelfUptoCard

/-- THE SECOND FORM's CARD OF 'laws.FnStarTwice'. -/
def fnStarTwiceUptoCard : Claim7 := { stood := { row := fnStarTwiceUptoRow, standIns := [], harness := (true, "3432b8f7cb723aa9fb1ce2ac5596410d2b7ffaa207aeda72fa82228864224dd5"), looks := true }, kinds := [], alts := [], laidByText := true, laidKinds := [.data, .sentinel, .pinned], laidTests := true, laidLooks := .later }
def FnStarTwiceUptoCardSaid : Prop := Claim7.holds Tryd.pinned (.plain (OpenSpec.upto fnStarTwiceSpec)) fnStarTwiceUptoCard
end Rows
end Go.Proofs.YtgpcnckiabjefaaDoor

/-
  DERIVED. GIVEN WITH THE SEED: THE CARDS: each row of YtlfppmhkgfhecaaDoorRows.lean that lists a variable, with what it lists TIED to the program's text (the seventh form; the later family's looks); each row that meets fmt, with fmt's text TOLD by the authors' own Lean function (tested against real Go, not proved from fmt's source: count such statements apart). THE CARD IS WHAT COUNTS. Prove the row's statement (the work); the ties are given (YtlfppmhkgfhecaaDoorTie.lean); close each card by the builder's one call (the guide's Derived/Test/ToyasCard.lean, 'card_holds'). Laid BY PROGRAM, IN A SANDBOX (cutbox-door.mjs). By AI agents, Wed Nov 11 2026. No macro, syntax, notation, axiom, sorry.
-/
import Derived.Test.YtlfppmhkgfhecaaDoorRows
import GoSem.ClaimSeven
namespace Go.Proofs.YtlfppmhkgfhecaaDoor
namespace Rows

/-- THE TIED CARD OF 'laws.FnClassTwice'. -/
def fnClassTwiceCard : Claim7 := { stood := { row := fnClassTwiceRow, standIns := [], harness := (true, "89dd6db288c345a78a130f08325b352e487c208745abc95d90d762c4d76af31d"), looks := true }, kinds := [], alts := [], laidByText := true, laidKinds := [.data, .sentinel, .pinned], laidTests := true, laidLooks := .later }
def FnClassTwiceCardSaid : Prop := Claim7.holds Tryd.pinned (.plain (OpenSpec.ofChange fnClassTwiceSpec)) fnClassTwiceCard

/-- THE TIED CARD OF 'laws.FnClassOrder'. -/
def fnClassOrderCard : Claim7 := { stood := { row := fnClassOrderRow, standIns := [], harness := (true, "89dd6db288c345a78a130f08325b352e487c208745abc95d90d762c4d76af31d"), looks := true }, kinds := [], alts := [], laidByText := true, laidKinds := [.data, .sentinel, .pinned], laidTests := true, laidLooks := .later }
def FnClassOrderCardSaid : Prop := Claim7.holds Tryd.pinned (.plain (OpenSpec.ofChange fnClassOrderSpec)) fnClassOrderCard

/-- THE TIED CARD OF 'laws.FnClassSpread'. -/
def fnClassSpreadCard : Claim7 := { stood := { row := fnClassSpreadRow, standIns := [], harness := (true, "89dd6db288c345a78a130f08325b352e487c208745abc95d90d762c4d76af31d"), looks := true }, kinds := [], alts := [], laidByText := true, laidKinds := [.data, .sentinel, .pinned], laidTests := true, laidLooks := .later }
def FnClassSpreadCardSaid : Prop := Claim7.holds Tryd.pinned (.plain (OpenSpec.ofChange fnClassSpreadSpec)) fnClassSpreadCard

/-- THE TIED CARD OF 'laws.FnClassHead'. -/
def fnClassHeadCard : Claim7 := { stood := { row := fnClassHeadRow, standIns := [], harness := (true, "89dd6db288c345a78a130f08325b352e487c208745abc95d90d762c4d76af31d"), looks := true }, kinds := [], alts := [], laidByText := true, laidKinds := [.data, .sentinel, .pinned], laidTests := true, laidLooks := .later }
def FnClassHeadCardSaid : Prop := Claim7.holds Tryd.pinned (.plain (OpenSpec.ofChange fnClassHeadSpec)) fnClassHeadCard

/-- THE TIED CARD OF 'laws.FnClassOne'. -/
def fnClassOneCard : Claim7 := { stood := { row := fnClassOneRow, standIns := [], harness := (true, "89dd6db288c345a78a130f08325b352e487c208745abc95d90d762c4d76af31d"), looks := true }, kinds := [], alts := [], laidByText := true, laidKinds := [.data, .sentinel, .pinned], laidTests := true, laidLooks := .later }
def FnClassOneCardSaid : Prop := Claim7.holds Tryd.pinned (.plain (OpenSpec.ofChange fnClassOneSpec)) fnClassOneCard

/-- THE TIED CARD OF 'laws.FnClassNot'. -/
def fnClassNotCard : Claim7 := { stood := { row := fnClassNotRow, standIns := [], harness := (true, "89dd6db288c345a78a130f08325b352e487c208745abc95d90d762c4d76af31d"), looks := true }, kinds := [], alts := [], laidByText := true, laidKinds := [.data, .sentinel, .pinned], laidTests := true, laidLooks := .later }
def FnClassNotCardSaid : Prop := Claim7.holds Tryd.pinned (.plain (OpenSpec.ofChange fnClassNotSpec)) fnClassNotCard

/-- THE TIED CARD OF 'laws.FnClassUnion'. -/
def fnClassUnionCard : Claim7 := { stood := { row := fnClassUnionRow, standIns := [], harness := (true, "89dd6db288c345a78a130f08325b352e487c208745abc95d90d762c4d76af31d"), looks := true }, kinds := [], alts := [], laidByText := true, laidKinds := [.data, .sentinel, .pinned], laidTests := true, laidLooks := .later }
def FnClassUnionCardSaid : Prop := Claim7.holds Tryd.pinned (.plain (OpenSpec.ofChange fnClassUnionSpec)) fnClassUnionCard

/-- THE TIED CARD OF 'laws.FnAnyHead'. -/
def fnAnyHeadCard : Claim7 := { stood := { row := fnAnyHeadRow, standIns := [], harness := (true, "89dd6db288c345a78a130f08325b352e487c208745abc95d90d762c4d76af31d"), looks := true }, kinds := [], alts := [], laidByText := true, laidKinds := [.data, .sentinel, .pinned], laidTests := true, laidLooks := .later }
def FnAnyHeadCardSaid : Prop := Claim7.holds Tryd.pinned (.plain (OpenSpec.ofChange fnAnyHeadSpec)) fnAnyHeadCard

/-- THE TIED CARD OF 'laws.FnMatchSound'. -/
def fnMatchSoundCard : Claim7 := { stood := { row := fnMatchSoundRow, standIns := [], harness := (true, "89dd6db288c345a78a130f08325b352e487c208745abc95d90d762c4d76af31d"), looks := true }, kinds := [], alts := [], laidByText := true, laidKinds := [.data, .sentinel, .pinned], laidTests := true, laidLooks := .later }
def FnMatchSoundCardSaid : Prop := Claim7.holds Tryd.pinned (.plain (OpenSpec.ofChange fnMatchSoundSpec)) fnMatchSoundCard

/-- THE TIED CARD OF 'laws.FnAnyTail'. -/
def fnAnyTailCard : Claim7 := { stood := { row := fnAnyTailRow, standIns := [], harness := (true, "89dd6db288c345a78a130f08325b352e487c208745abc95d90d762c4d76af31d"), looks := true }, kinds := [], alts := [], laidByText := true, laidKinds := [.data, .sentinel, .pinned], laidTests := true, laidLooks := .later }
def FnAnyTailCardSaid : Prop := Claim7.holds Tryd.pinned (.plain (OpenSpec.ofChange fnAnyTailSpec)) fnAnyTailCard

/-- THE TIED CARD OF 'laws.FnStarAround'. -/
def fnStarAroundCard : Claim7 := { stood := { row := fnStarAroundRow, standIns := [], harness := (true, "89dd6db288c345a78a130f08325b352e487c208745abc95d90d762c4d76af31d"), looks := true }, kinds := [], alts := [], laidByText := true, laidKinds := [.data, .sentinel, .pinned], laidTests := true, laidLooks := .later }
def FnStarAroundCardSaid : Prop := Claim7.holds Tryd.pinned (.plain (OpenSpec.ofChange fnStarAroundSpec)) fnStarAroundCard

/-- THE TIED CARD OF 'laws.FnStarCount'. -/
def fnStarCountCard : Claim7 := { stood := { row := fnStarCountRow, standIns := [], harness := (true, "89dd6db288c345a78a130f08325b352e487c208745abc95d90d762c4d76af31d"), looks := true }, kinds := [], alts := [], laidByText := true, laidKinds := [.data, .sentinel, .pinned], laidTests := true, laidLooks := .later }
def FnStarCountCardSaid : Prop := Claim7.holds Tryd.pinned (.plain (OpenSpec.ofChange fnStarCountSpec)) fnStarCountCard

/-- THE SECOND FORM's CARD OF 'laws.FnClassTwice'. -/
def fnClassTwiceUptoCard : Claim7 := { stood := { row := fnClassTwiceUptoRow, standIns := [], harness := (true, "89dd6db288c345a78a130f08325b352e487c208745abc95d90d762c4d76af31d"), looks := true }, kinds := [], alts := [], laidByText := true, laidKinds := [.data, .sentinel, .pinned], laidTests := true, laidLooks := .later }
def FnClassTwiceUptoCardSaid : Prop := Claim7.holds Tryd.pinned (.plain (OpenSpec.upto fnClassTwiceSpec)) fnClassTwiceUptoCard

/-- THE SECOND FORM's CARD OF 'laws.FnClassOrder'. -/
def fnClassOrderUptoCard : Claim7 := { stood := { row := fnClassOrderUptoRow, standIns := [], harness := (true, "89dd6db288c345a78a130f08325b352e487c208745abc95d90d762c4d76af31d"), looks := true }, kinds := [], alts := [], laidByText := true, laidKinds := [.data, .sentinel, .pinned], laidTests := true, laidLooks := .later }
def FnClassOrderUptoCardSaid : Prop := Claim7.holds Tryd.pinned (.plain (OpenSpec.upto fnClassOrderSpec)) fnClassOrderUptoCard

/-- THE SECOND FORM's CARD OF 'laws.FnClassSpread'. -/
def fnClassSpreadUptoCard : Claim7 := { stood := { row := fnClassSpreadUptoRow, standIns := [], harness := (true, "89dd6db288c345a78a130f08325b352e487c208745abc95d90d762c4d76af31d"), looks := true }, kinds := [], alts := [], laidByText := true, laidKinds := [.data, .sentinel, .pinned], laidTests := true, laidLooks := .later }
def FnClassSpreadUptoCardSaid : Prop := Claim7.holds Tryd.pinned (.plain (OpenSpec.upto fnClassSpreadSpec)) fnClassSpreadUptoCard

/-- THE SECOND FORM's CARD OF 'laws.FnClassHead'. -/
def fnClassHeadUptoCard : Claim7 := { stood := { row := fnClassHeadUptoRow, standIns := [], harness := (true, "89dd6db288c345a78a130f08325b352e487c208745abc95d90d762c4d76af31d"), looks := true }, kinds := [], alts := [], laidByText := true, laidKinds := [.data, .sentinel, .pinned], laidTests := true, laidLooks := .later }
def FnClassHeadUptoCardSaid : Prop := Claim7.holds Tryd.pinned (.plain (OpenSpec.upto fnClassHeadSpec)) fnClassHeadUptoCard

/-- THE SECOND FORM's CARD OF 'laws.FnClassOne'. -/
def fnClassOneUptoCard : Claim7 := { stood := { row := fnClassOneUptoRow, standIns := [], harness := (true, "89dd6db288c345a78a130f08325b352e487c208745abc95d90d762c4d76af31d"), looks := true }, kinds := [], alts := [], laidByText := true, laidKinds := [.data, .sentinel, .pinned], laidTests := true, laidLooks := .later }
def FnClassOneUptoCardSaid : Prop := Claim7.holds Tryd.pinned (.plain (OpenSpec.upto fnClassOneSpec)) fnClassOneUptoCard

/-- THE SECOND FORM's CARD OF 'laws.FnClassNot'. -/
def fnClassNotUptoCard : Claim7 := { stood := { row := fnClassNotUptoRow, standIns := [], harness := (true, "89dd6db288c345a78a130f08325b352e487c208745abc95d90d762c4d76af31d"), looks := true }, kinds := [], alts := [], laidByText := true, laidKinds := [.data, .sentinel, .pinned], laidTests := true, laidLooks := .later }
def FnClassNotUptoCardSaid : Prop := Claim7.holds Tryd.pinned (.plain (OpenSpec.upto fnClassNotSpec)) fnClassNotUptoCard

/-- THE SECOND FORM's CARD OF 'laws.FnClassUnion'. -/
def fnClassUnionUptoCard : Claim7 := { stood := { row := fnClassUnionUptoRow, standIns := [], harness := (true, "89dd6db288c345a78a130f08325b352e487c208745abc95d90d762c4d76af31d"), looks := true }, kinds := [], alts := [], laidByText := true, laidKinds := [.data, .sentinel, .pinned], laidTests := true, laidLooks := .later }
def FnClassUnionUptoCardSaid : Prop := Claim7.holds Tryd.pinned (.plain (OpenSpec.upto fnClassUnionSpec)) fnClassUnionUptoCard

/-- THE SECOND FORM's CARD OF 'laws.FnAnyHead'. -/
def fnAnyHeadUptoCard : Claim7 := { stood := { row := fnAnyHeadUptoRow, standIns := [], harness := (true, "89dd6db288c345a78a130f08325b352e487c208745abc95d90d762c4d76af31d"), looks := true }, kinds := [], alts := [], laidByText := true, laidKinds := [.data, .sentinel, .pinned], laidTests := true, laidLooks := .later }
def FnAnyHeadUptoCardSaid : Prop := Claim7.holds Tryd.pinned (.plain (OpenSpec.upto fnAnyHeadSpec)) fnAnyHeadUptoCard

/-- THE SECOND FORM's CARD OF 'laws.FnMatchSound'. -/
def fnMatchSoundUptoCard : Claim7 := { stood := { row := fnMatchSoundUptoRow, standIns := [], harness := (true, "89dd6db288c345a78a130f08325b352e487c208745abc95d90d762c4d76af31d"), looks := true }, kinds := [], alts := [], laidByText := true, laidKinds := [.data, .sentinel, .pinned], laidTests := true, laidLooks := .later }
def FnMatchSoundUptoCardSaid : Prop := Claim7.holds Tryd.pinned (.plain (OpenSpec.upto fnMatchSoundSpec)) fnMatchSoundUptoCard

/-- THE SECOND FORM's CARD OF 'laws.FnAnyTail'. -/
def fnAnyTailUptoCard : Claim7 := { stood := { row := fnAnyTailUptoRow, standIns := [], harness := (true, "89dd6db288c345a78a130f08325b352e487c208745abc95d90d762c4d76af31d"), looks := true }, kinds := [], alts := [], laidByText := true, laidKinds := [.data, .sentinel, .pinned], laidTests := true, laidLooks := .later }
def FnAnyTailUptoCardSaid : Prop := Claim7.holds Tryd.pinned (.plain (OpenSpec.upto fnAnyTailSpec)) fnAnyTailUptoCard

/-- THE SECOND FORM's CARD OF 'laws.FnStarAround'. -/
def fnStarAroundUptoCard : Claim7 := { stood := { row := fnStarAroundUptoRow, standIns := [], harness := (true, "89dd6db288c345a78a130f08325b352e487c208745abc95d90d762c4d76af31d"), looks := true }, kinds := [], alts := [], laidByText := true, laidKinds := [.data, .sentinel, .pinned], laidTests := true, laidLooks := .later }
def FnStarAroundUptoCardSaid : Prop := Claim7.holds Tryd.pinned (.plain (OpenSpec.upto fnStarAroundSpec)) fnStarAroundUptoCard

/-- THE SECOND FORM's CARD OF 'laws.FnStarCount'. -/
def fnStarCountUptoCard : Claim7 := { stood := { row := fnStarCountUptoRow, standIns := [], harness := (true, "89dd6db288c345a78a130f08325b352e487c208745abc95d90d762c4d76af31d"), looks := true }, kinds := [], alts := [], laidByText := true, laidKinds := [.data, .sentinel, .pinned], laidTests := true, laidLooks := .later }
def FnStarCountUptoCardSaid : Prop := Claim7.holds Tryd.pinned (.plain (OpenSpec.upto fnStarCountSpec)) fnStarCountUptoCard
end Rows
end Go.Proofs.YtlfppmhkgfhecaaDoor

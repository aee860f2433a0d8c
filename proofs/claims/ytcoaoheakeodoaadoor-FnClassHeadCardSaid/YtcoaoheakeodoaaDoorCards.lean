/-
  DERIVED. GIVEN WITH THE SEED: THE CARDS: each row of YtcoaoheakeodoaaDoorRows.lean that lists a variable, with what it lists TIED to the program's text (the seventh form; the later family's looks); each row that meets fmt, with fmt's text TOLD by the authors' own Lean function (tested against real Go, not proved from fmt's source: count such statements apart). THE CARD IS WHAT COUNTS. Prove the row's statement (the work); the ties are given (YtcoaoheakeodoaaDoorTie.lean); close each card by the builder's one call (the guide's Derived/Test/ToyasCard.lean, 'card_holds'). Laid BY PROGRAM, IN A SANDBOX (cutbox-door.mjs). By AI agents, Wed Nov 11 2026. No macro, syntax, notation, axiom, sorry.
-/
import Derived.Test.YtcoaoheakeodoaaDoorRows
import GoSem.ClaimSeven
namespace Go.Proofs.YtcoaoheakeodoaaDoor
namespace Rows

/-- THE TIED CARD OF 'laws.FnClassHead'. -/
def fnClassHeadCard : Claim7 := { stood := { row := fnClassHeadRow, standIns := [], harness := (true, "fc9361031777e71a81b8b9a9789e4d44050d32229773da5a9552ccadd9a7849b"), looks := true }, kinds := [], alts := [], laidByText := true, laidKinds := [.data, .sentinel, .pinned], laidTests := true, laidLooks := .later }
def FnClassHeadCardSaid : Prop := Claim7.holds Tryd.pinned (.plain (OpenSpec.ofChange fnClassHeadSpec)) fnClassHeadCard

/-- THE TIED CARD OF 'laws.FnJoinMatch'. -/
def fnJoinMatchCard : Claim7 := { stood := { row := fnJoinMatchRow, standIns := [], harness := (true, "fc9361031777e71a81b8b9a9789e4d44050d32229773da5a9552ccadd9a7849b"), looks := true }, kinds := [], alts := [], laidByText := true, laidKinds := [.data, .sentinel, .pinned], laidTests := true, laidLooks := .later }
def FnJoinMatchCardSaid : Prop := Claim7.holds Tryd.pinned (.plain (OpenSpec.ofChange fnJoinMatchSpec)) fnJoinMatchCard

/-- THE TIED CARD OF 'laws.FnParts'. -/
def fnPartsCard : Claim7 := { stood := { row := fnPartsRow, standIns := [], harness := (true, "fc9361031777e71a81b8b9a9789e4d44050d32229773da5a9552ccadd9a7849b"), looks := true }, kinds := [], alts := [], laidByText := true, laidKinds := [.data, .sentinel, .pinned], laidTests := true, laidLooks := .later }
def FnPartsCardSaid : Prop := Claim7.holds Tryd.pinned (.plain (OpenSpec.ofChange fnPartsSpec)) fnPartsCard

/-- THE SECOND FORM's CARD OF 'laws.FnClassHead'. -/
def fnClassHeadUptoCard : Claim7 := { stood := { row := fnClassHeadUptoRow, standIns := [], harness := (true, "fc9361031777e71a81b8b9a9789e4d44050d32229773da5a9552ccadd9a7849b"), looks := true }, kinds := [], alts := [], laidByText := true, laidKinds := [.data, .sentinel, .pinned], laidTests := true, laidLooks := .later }
def FnClassHeadUptoCardSaid : Prop := Claim7.holds Tryd.pinned (.plain (OpenSpec.upto fnClassHeadSpec)) fnClassHeadUptoCard

/-- THE SECOND FORM's CARD OF 'laws.FnJoinMatch'. -/
def fnJoinMatchUptoCard : Claim7 := { stood := { row := fnJoinMatchUptoRow, standIns := [], harness := (true, "fc9361031777e71a81b8b9a9789e4d44050d32229773da5a9552ccadd9a7849b"), looks := true }, kinds := [], alts := [], laidByText := true, laidKinds := [.data, .sentinel, .pinned], laidTests := true, laidLooks := .later }
def FnJoinMatchUptoCardSaid : Prop := Claim7.holds Tryd.pinned (.plain (OpenSpec.upto fnJoinMatchSpec)) fnJoinMatchUptoCard

/-- THE SECOND FORM's CARD OF 'laws.FnParts'. -/
def fnPartsUptoCard : Claim7 := { stood := { row := fnPartsUptoRow, standIns := [], harness := (true, "fc9361031777e71a81b8b9a9789e4d44050d32229773da5a9552ccadd9a7849b"), looks := true }, kinds := [], alts := [], laidByText := true, laidKinds := [.data, .sentinel, .pinned], laidTests := true, laidLooks := .later }
def FnPartsUptoCardSaid : Prop := Claim7.holds Tryd.pinned (.plain (OpenSpec.upto fnPartsSpec)) fnPartsUptoCard
end Rows
end Go.Proofs.YtcoaoheakeodoaaDoor

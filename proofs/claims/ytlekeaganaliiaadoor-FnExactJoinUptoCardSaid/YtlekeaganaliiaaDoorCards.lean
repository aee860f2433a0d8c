/-
  DERIVED. GIVEN WITH THE SEED: THE CARDS: each row of YtlekeaganaliiaaDoorRows.lean that lists a variable, with what it lists TIED to the program's text (the seventh form; the later family's looks); each row that meets fmt, with fmt's text TOLD by the authors' own Lean function (tested against real Go, not proved from fmt's source: count such statements apart). THE CARD IS WHAT COUNTS. Prove the row's statement (the work); the ties are given (YtlekeaganaliiaaDoorTie.lean); close each card by the builder's one call (the guide's Derived/Test/ToyasCard.lean, 'card_holds'). Laid BY PROGRAM, IN A SANDBOX (cutbox-door.mjs). By AI agents, Wed Nov 11 2026. No macro, syntax, notation, axiom, sorry.
-/
import Derived.Test.YtlekeaganaliiaaDoorRows
import GoSem.ClaimSeven
namespace Go.Proofs.YtlekeaganaliiaaDoor
namespace Rows

/-- THE TIED CARD OF 'laws.FnExactMatch'. -/
def fnExactMatchCard : Claim7 := { stood := { row := fnExactMatchRow, standIns := [], harness := (true, "c6927f3b19ef7f0a400b25d3f0744569a552a61f0e0cfa6980289c26d8f26373"), looks := true }, kinds := [], alts := [], laidByText := true, laidKinds := [.data, .sentinel, .pinned], laidTests := true, laidLooks := .later }
def FnExactMatchCardSaid : Prop := Claim7.holds Tryd.pinned (.plain (OpenSpec.ofChange fnExactMatchSpec)) fnExactMatchCard

/-- THE TIED CARD OF 'laws.FnAnyMany'. -/
def fnAnyManyCard : Claim7 := { stood := { row := fnAnyManyRow, standIns := [], harness := (true, "c6927f3b19ef7f0a400b25d3f0744569a552a61f0e0cfa6980289c26d8f26373"), looks := true }, kinds := [], alts := [], laidByText := true, laidKinds := [.data, .sentinel, .pinned], laidTests := true, laidLooks := .later }
def FnAnyManyCardSaid : Prop := Claim7.holds Tryd.pinned (.plain (OpenSpec.ofChange fnAnyManySpec)) fnAnyManyCard

/-- THE TIED CARD OF 'laws.FnBaseStar'. -/
def fnBaseStarCard : Claim7 := { stood := { row := fnBaseStarRow, standIns := [], harness := (true, "c6927f3b19ef7f0a400b25d3f0744569a552a61f0e0cfa6980289c26d8f26373"), looks := true }, kinds := [], alts := [], laidByText := true, laidKinds := [.data, .sentinel, .pinned], laidTests := true, laidLooks := .later }
def FnBaseStarCardSaid : Prop := Claim7.holds Tryd.pinned (.plain (OpenSpec.ofChange fnBaseStarSpec)) fnBaseStarCard

/-- THE TIED CARD OF 'laws.FnParts'. -/
def fnPartsCard : Claim7 := { stood := { row := fnPartsRow, standIns := [], harness := (true, "c6927f3b19ef7f0a400b25d3f0744569a552a61f0e0cfa6980289c26d8f26373"), looks := true }, kinds := [], alts := [], laidByText := true, laidKinds := [.data, .sentinel, .pinned], laidTests := true, laidLooks := .later }
def FnPartsCardSaid : Prop := Claim7.holds Tryd.pinned (.plain (OpenSpec.ofChange fnPartsSpec)) fnPartsCard

/-- THE TIED CARD OF 'laws.FnJoinMatch'. -/
def fnJoinMatchCard : Claim7 := { stood := { row := fnJoinMatchRow, standIns := [], harness := (true, "c6927f3b19ef7f0a400b25d3f0744569a552a61f0e0cfa6980289c26d8f26373"), looks := true }, kinds := [], alts := [], laidByText := true, laidKinds := [.data, .sentinel, .pinned], laidTests := true, laidLooks := .later }
def FnJoinMatchCardSaid : Prop := Claim7.holds Tryd.pinned (.plain (OpenSpec.ofChange fnJoinMatchSpec)) fnJoinMatchCard

/-- THE TIED CARD OF 'laws.FnExactBase'. -/
def fnExactBaseCard : Claim7 := { stood := { row := fnExactBaseRow, standIns := [], harness := (true, "c6927f3b19ef7f0a400b25d3f0744569a552a61f0e0cfa6980289c26d8f26373"), looks := true }, kinds := [], alts := [], laidByText := true, laidKinds := [.data, .pinned], laidTests := true, laidLooks := .later }
def FnExactBaseCardSaid : Prop := Claim7.holds Tryd.pinned (.plain (OpenSpec.ofChange fnExactBaseSpec)) fnExactBaseCard

/-- THE TIED CARD OF 'laws.FnExactClean'. -/
def fnExactCleanCard : Claim7 := { stood := { row := fnExactCleanRow, standIns := [], harness := (true, "c6927f3b19ef7f0a400b25d3f0744569a552a61f0e0cfa6980289c26d8f26373"), looks := true }, kinds := [], alts := [], laidByText := true, laidKinds := [.data, .pinned], laidTests := true, laidLooks := .later }
def FnExactCleanCardSaid : Prop := Claim7.holds Tryd.pinned (.plain (OpenSpec.ofChange fnExactCleanSpec)) fnExactCleanCard

/-- THE TIED CARD OF 'laws.FnExactDir'. -/
def fnExactDirCard : Claim7 := { stood := { row := fnExactDirRow, standIns := [], harness := (true, "c6927f3b19ef7f0a400b25d3f0744569a552a61f0e0cfa6980289c26d8f26373"), looks := true }, kinds := [], alts := [], laidByText := true, laidKinds := [.data, .pinned], laidTests := true, laidLooks := .later }
def FnExactDirCardSaid : Prop := Claim7.holds Tryd.pinned (.plain (OpenSpec.ofChange fnExactDirSpec)) fnExactDirCard

/-- THE TIED CARD OF 'laws.FnExactJoin'. -/
def fnExactJoinCard : Claim7 := { stood := { row := fnExactJoinRow, standIns := [], harness := (true, "c6927f3b19ef7f0a400b25d3f0744569a552a61f0e0cfa6980289c26d8f26373"), looks := true }, kinds := [], alts := [], laidByText := true, laidKinds := [.data, .pinned], laidTests := true, laidLooks := .later }
def FnExactJoinCardSaid : Prop := Claim7.holds Tryd.pinned (.plain (OpenSpec.ofChange fnExactJoinSpec)) fnExactJoinCard

/-- THE SECOND FORM's CARD OF 'laws.FnExactMatch'. -/
def fnExactMatchUptoCard : Claim7 := { stood := { row := fnExactMatchUptoRow, standIns := [], harness := (true, "c6927f3b19ef7f0a400b25d3f0744569a552a61f0e0cfa6980289c26d8f26373"), looks := true }, kinds := [], alts := [], laidByText := true, laidKinds := [.data, .sentinel, .pinned], laidTests := true, laidLooks := .later }
def FnExactMatchUptoCardSaid : Prop := Claim7.holds Tryd.pinned (.plain (OpenSpec.upto fnExactMatchSpec)) fnExactMatchUptoCard

/-- THE SECOND FORM's CARD OF 'laws.FnAnyMany'. -/
def fnAnyManyUptoCard : Claim7 := { stood := { row := fnAnyManyUptoRow, standIns := [], harness := (true, "c6927f3b19ef7f0a400b25d3f0744569a552a61f0e0cfa6980289c26d8f26373"), looks := true }, kinds := [], alts := [], laidByText := true, laidKinds := [.data, .sentinel, .pinned], laidTests := true, laidLooks := .later }
def FnAnyManyUptoCardSaid : Prop := Claim7.holds Tryd.pinned (.plain (OpenSpec.upto fnAnyManySpec)) fnAnyManyUptoCard

/-- THE SECOND FORM's CARD OF 'laws.FnBaseStar'. -/
def fnBaseStarUptoCard : Claim7 := { stood := { row := fnBaseStarUptoRow, standIns := [], harness := (true, "c6927f3b19ef7f0a400b25d3f0744569a552a61f0e0cfa6980289c26d8f26373"), looks := true }, kinds := [], alts := [], laidByText := true, laidKinds := [.data, .sentinel, .pinned], laidTests := true, laidLooks := .later }
def FnBaseStarUptoCardSaid : Prop := Claim7.holds Tryd.pinned (.plain (OpenSpec.upto fnBaseStarSpec)) fnBaseStarUptoCard

/-- THE SECOND FORM's CARD OF 'laws.FnParts'. -/
def fnPartsUptoCard : Claim7 := { stood := { row := fnPartsUptoRow, standIns := [], harness := (true, "c6927f3b19ef7f0a400b25d3f0744569a552a61f0e0cfa6980289c26d8f26373"), looks := true }, kinds := [], alts := [], laidByText := true, laidKinds := [.data, .sentinel, .pinned], laidTests := true, laidLooks := .later }
def FnPartsUptoCardSaid : Prop := Claim7.holds Tryd.pinned (.plain (OpenSpec.upto fnPartsSpec)) fnPartsUptoCard

/-- THE SECOND FORM's CARD OF 'laws.FnJoinMatch'. -/
def fnJoinMatchUptoCard : Claim7 := { stood := { row := fnJoinMatchUptoRow, standIns := [], harness := (true, "c6927f3b19ef7f0a400b25d3f0744569a552a61f0e0cfa6980289c26d8f26373"), looks := true }, kinds := [], alts := [], laidByText := true, laidKinds := [.data, .sentinel, .pinned], laidTests := true, laidLooks := .later }
def FnJoinMatchUptoCardSaid : Prop := Claim7.holds Tryd.pinned (.plain (OpenSpec.upto fnJoinMatchSpec)) fnJoinMatchUptoCard

/-- THE SECOND FORM's CARD OF 'laws.FnExactBase'. -/
def fnExactBaseUptoCard : Claim7 := { stood := { row := fnExactBaseUptoRow, standIns := [], harness := (true, "c6927f3b19ef7f0a400b25d3f0744569a552a61f0e0cfa6980289c26d8f26373"), looks := true }, kinds := [], alts := [], laidByText := true, laidKinds := [.data, .pinned], laidTests := true, laidLooks := .later }
def FnExactBaseUptoCardSaid : Prop := Claim7.holds Tryd.pinned (.plain (OpenSpec.upto fnExactBaseSpec)) fnExactBaseUptoCard

/-- THE SECOND FORM's CARD OF 'laws.FnExactClean'. -/
def fnExactCleanUptoCard : Claim7 := { stood := { row := fnExactCleanUptoRow, standIns := [], harness := (true, "c6927f3b19ef7f0a400b25d3f0744569a552a61f0e0cfa6980289c26d8f26373"), looks := true }, kinds := [], alts := [], laidByText := true, laidKinds := [.data, .pinned], laidTests := true, laidLooks := .later }
def FnExactCleanUptoCardSaid : Prop := Claim7.holds Tryd.pinned (.plain (OpenSpec.upto fnExactCleanSpec)) fnExactCleanUptoCard

/-- THE SECOND FORM's CARD OF 'laws.FnExactDir'. -/
def fnExactDirUptoCard : Claim7 := { stood := { row := fnExactDirUptoRow, standIns := [], harness := (true, "c6927f3b19ef7f0a400b25d3f0744569a552a61f0e0cfa6980289c26d8f26373"), looks := true }, kinds := [], alts := [], laidByText := true, laidKinds := [.data, .pinned], laidTests := true, laidLooks := .later }
def FnExactDirUptoCardSaid : Prop := Claim7.holds Tryd.pinned (.plain (OpenSpec.upto fnExactDirSpec)) fnExactDirUptoCard

/-- THE SECOND FORM's CARD OF 'laws.FnExactJoin'. -/
def fnExactJoinUptoCard : Claim7 := { stood := { row := fnExactJoinUptoRow, standIns := [], harness := (true, "c6927f3b19ef7f0a400b25d3f0744569a552a61f0e0cfa6980289c26d8f26373"), looks := true }, kinds := [], alts := [], laidByText := true, laidKinds := [.data, .pinned], laidTests := true, laidLooks := .later }
def FnExactJoinUptoCardSaid : Prop := Claim7.holds Tryd.pinned (.plain (OpenSpec.upto fnExactJoinSpec)) fnExactJoinUptoCard
end Rows
end Go.Proofs.YtlekeaganaliiaaDoor

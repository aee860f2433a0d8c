/-
  DERIVED. GIVEN WITH THE SEED: THE CARDS: each row of YtpmgemlfpihdbaaDoorRows.lean that lists a variable, with what it lists TIED to the program's text (the seventh form; the later family's looks); each row that meets fmt, with fmt's text TOLD by the authors' own Lean function (tested against real Go, not proved from fmt's source: count such statements apart). THE CARD IS WHAT COUNTS. Prove the row's statement (the work); the ties are given (YtpmgemlfpihdbaaDoorTie.lean); close each card by the builder's one call (the guide's Derived/Test/ToyasCard.lean, 'card_holds'). Laid BY PROGRAM, IN A SANDBOX (cutbox-door.mjs). By AI agents, Wed Nov 11 2026. No macro, syntax, notation, axiom, sorry.
-/
import Derived.Test.YtpmgemlfpihdbaaDoorRows
import GoSem.ClaimSeven
namespace Go.Proofs.YtpmgemlfpihdbaaDoor
namespace Rows

/-- THE TIED CARD OF 'laws.FnStarCount'. -/
def fnStarCountCard : Claim7 := { stood := { row := fnStarCountRow, standIns := [], harness := (true, "b0fb4999470dd49dcf554fc18fa9600aba85fe7570ba9f3013e3bebc6b931e72"), looks := true }, kinds := [], alts := [], laidByText := true, laidKinds := [.data, .sentinel, .pinned], laidTests := true, laidLooks := .later }
def FnStarCountCardSaid : Prop := Claim7.holds Tryd.pinned (.plain (OpenSpec.ofChange fnStarCountSpec)) fnStarCountCard

/-- THE TIED CARD OF 'laws.FnParts'. -/
def fnPartsCard : Claim7 := { stood := { row := fnPartsRow, standIns := [], harness := (true, "b0fb4999470dd49dcf554fc18fa9600aba85fe7570ba9f3013e3bebc6b931e72"), looks := true }, kinds := [], alts := [], laidByText := true, laidKinds := [.data, .sentinel, .pinned], laidTests := true, laidLooks := .later }
def FnPartsCardSaid : Prop := Claim7.holds Tryd.pinned (.plain (OpenSpec.ofChange fnPartsSpec)) fnPartsCard

/-- THE TIED CARD OF 'laws.FnDirMatch'. -/
def fnDirMatchCard : Claim7 := { stood := { row := fnDirMatchRow, standIns := [], harness := (true, "b0fb4999470dd49dcf554fc18fa9600aba85fe7570ba9f3013e3bebc6b931e72"), looks := true }, kinds := [], alts := [], laidByText := true, laidKinds := [.data, .sentinel, .pinned], laidTests := true, laidLooks := .later }
def FnDirMatchCardSaid : Prop := Claim7.holds Tryd.pinned (.plain (OpenSpec.ofChange fnDirMatchSpec)) fnDirMatchCard

/-- THE TIED CARD OF 'laws.FnBaseStar'. -/
def fnBaseStarCard : Claim7 := { stood := { row := fnBaseStarRow, standIns := [], harness := (true, "b0fb4999470dd49dcf554fc18fa9600aba85fe7570ba9f3013e3bebc6b931e72"), looks := true }, kinds := [], alts := [], laidByText := true, laidKinds := [.data, .sentinel, .pinned], laidTests := true, laidLooks := .later }
def FnBaseStarCardSaid : Prop := Claim7.holds Tryd.pinned (.plain (OpenSpec.ofChange fnBaseStarSpec)) fnBaseStarCard

/-- THE TIED CARD OF 'laws.FnExactFails'. -/
def fnExactFailsCard : Claim7 := { stood := { row := fnExactFailsRow, standIns := [], harness := (true, "b0fb4999470dd49dcf554fc18fa9600aba85fe7570ba9f3013e3bebc6b931e72"), looks := true }, kinds := [], alts := [], laidByText := true, laidKinds := [.data, .sentinel, .pinned], laidTests := true, laidLooks := .later }
def FnExactFailsCardSaid : Prop := Claim7.holds Tryd.pinned (.plain (OpenSpec.ofChange fnExactFailsSpec)) fnExactFailsCard

/-- THE TIED CARD OF 'laws.FnExactFailsCorner'. -/
def fnExactFailsCornerCard : Claim7 := { stood := { row := fnExactFailsCornerRow, standIns := [], harness := (true, "b0fb4999470dd49dcf554fc18fa9600aba85fe7570ba9f3013e3bebc6b931e72"), looks := true }, kinds := [], alts := [], laidByText := true, laidKinds := [.data, .sentinel, .pinned], laidTests := true, laidLooks := .later }
def FnExactFailsCornerCardSaid : Prop := Claim7.holds Tryd.pinned (.plain (OpenSpec.ofChange fnExactFailsCornerSpec)) fnExactFailsCornerCard

/-- THE TIED CARD OF 'laws.FnExactMatch'. -/
def fnExactMatchCard : Claim7 := { stood := { row := fnExactMatchRow, standIns := [], harness := (true, "b0fb4999470dd49dcf554fc18fa9600aba85fe7570ba9f3013e3bebc6b931e72"), looks := true }, kinds := [], alts := [], laidByText := true, laidKinds := [.data, .sentinel, .pinned], laidTests := true, laidLooks := .later }
def FnExactMatchCardSaid : Prop := Claim7.holds Tryd.pinned (.plain (OpenSpec.ofChange fnExactMatchSpec)) fnExactMatchCard

/-- THE TIED CARD OF 'laws.FnJoinMatch'. -/
def fnJoinMatchCard : Claim7 := { stood := { row := fnJoinMatchRow, standIns := [], harness := (true, "b0fb4999470dd49dcf554fc18fa9600aba85fe7570ba9f3013e3bebc6b931e72"), looks := true }, kinds := [], alts := [], laidByText := true, laidKinds := [.data, .sentinel, .pinned], laidTests := true, laidLooks := .later }
def FnJoinMatchCardSaid : Prop := Claim7.holds Tryd.pinned (.plain (OpenSpec.ofChange fnJoinMatchSpec)) fnJoinMatchCard

/-- THE TIED CARD OF 'laws.FnAnyMany'. -/
def fnAnyManyCard : Claim7 := { stood := { row := fnAnyManyRow, standIns := [], harness := (true, "b0fb4999470dd49dcf554fc18fa9600aba85fe7570ba9f3013e3bebc6b931e72"), looks := true }, kinds := [], alts := [], laidByText := true, laidKinds := [.data, .sentinel, .pinned], laidTests := true, laidLooks := .later }
def FnAnyManyCardSaid : Prop := Claim7.holds Tryd.pinned (.plain (OpenSpec.ofChange fnAnyManySpec)) fnAnyManyCard

/-- THE SECOND FORM's CARD OF 'laws.FnStarCount'. -/
def fnStarCountUptoCard : Claim7 := { stood := { row := fnStarCountUptoRow, standIns := [], harness := (true, "b0fb4999470dd49dcf554fc18fa9600aba85fe7570ba9f3013e3bebc6b931e72"), looks := true }, kinds := [], alts := [], laidByText := true, laidKinds := [.data, .sentinel, .pinned], laidTests := true, laidLooks := .later }
def FnStarCountUptoCardSaid : Prop := Claim7.holds Tryd.pinned (.plain (OpenSpec.upto fnStarCountSpec)) fnStarCountUptoCard

/-- THE SECOND FORM's CARD OF 'laws.FnParts'. -/
def fnPartsUptoCard : Claim7 := { stood := { row := fnPartsUptoRow, standIns := [], harness := (true, "b0fb4999470dd49dcf554fc18fa9600aba85fe7570ba9f3013e3bebc6b931e72"), looks := true }, kinds := [], alts := [], laidByText := true, laidKinds := [.data, .sentinel, .pinned], laidTests := true, laidLooks := .later }
def FnPartsUptoCardSaid : Prop := Claim7.holds Tryd.pinned (.plain (OpenSpec.upto fnPartsSpec)) fnPartsUptoCard

/-- THE SECOND FORM's CARD OF 'laws.FnDirMatch'. -/
def fnDirMatchUptoCard : Claim7 := { stood := { row := fnDirMatchUptoRow, standIns := [], harness := (true, "b0fb4999470dd49dcf554fc18fa9600aba85fe7570ba9f3013e3bebc6b931e72"), looks := true }, kinds := [], alts := [], laidByText := true, laidKinds := [.data, .sentinel, .pinned], laidTests := true, laidLooks := .later }
def FnDirMatchUptoCardSaid : Prop := Claim7.holds Tryd.pinned (.plain (OpenSpec.upto fnDirMatchSpec)) fnDirMatchUptoCard

/-- THE SECOND FORM's CARD OF 'laws.FnBaseStar'. -/
def fnBaseStarUptoCard : Claim7 := { stood := { row := fnBaseStarUptoRow, standIns := [], harness := (true, "b0fb4999470dd49dcf554fc18fa9600aba85fe7570ba9f3013e3bebc6b931e72"), looks := true }, kinds := [], alts := [], laidByText := true, laidKinds := [.data, .sentinel, .pinned], laidTests := true, laidLooks := .later }
def FnBaseStarUptoCardSaid : Prop := Claim7.holds Tryd.pinned (.plain (OpenSpec.upto fnBaseStarSpec)) fnBaseStarUptoCard

/-- THE SECOND FORM's CARD OF 'laws.FnExactFails'. -/
def fnExactFailsUptoCard : Claim7 := { stood := { row := fnExactFailsUptoRow, standIns := [], harness := (true, "b0fb4999470dd49dcf554fc18fa9600aba85fe7570ba9f3013e3bebc6b931e72"), looks := true }, kinds := [], alts := [], laidByText := true, laidKinds := [.data, .sentinel, .pinned], laidTests := true, laidLooks := .later }
def FnExactFailsUptoCardSaid : Prop := Claim7.holds Tryd.pinned (.plain (OpenSpec.upto fnExactFailsSpec)) fnExactFailsUptoCard

/-- THE SECOND FORM's CARD OF 'laws.FnExactFailsCorner'. -/
def fnExactFailsCornerUptoCard : Claim7 := { stood := { row := fnExactFailsCornerUptoRow, standIns := [], harness := (true, "b0fb4999470dd49dcf554fc18fa9600aba85fe7570ba9f3013e3bebc6b931e72"), looks := true }, kinds := [], alts := [], laidByText := true, laidKinds := [.data, .sentinel, .pinned], laidTests := true, laidLooks := .later }
def FnExactFailsCornerUptoCardSaid : Prop := Claim7.holds Tryd.pinned (.plain (OpenSpec.upto fnExactFailsCornerSpec)) fnExactFailsCornerUptoCard

/-- THE SECOND FORM's CARD OF 'laws.FnExactMatch'. -/
def fnExactMatchUptoCard : Claim7 := { stood := { row := fnExactMatchUptoRow, standIns := [], harness := (true, "b0fb4999470dd49dcf554fc18fa9600aba85fe7570ba9f3013e3bebc6b931e72"), looks := true }, kinds := [], alts := [], laidByText := true, laidKinds := [.data, .sentinel, .pinned], laidTests := true, laidLooks := .later }
def FnExactMatchUptoCardSaid : Prop := Claim7.holds Tryd.pinned (.plain (OpenSpec.upto fnExactMatchSpec)) fnExactMatchUptoCard

/-- THE SECOND FORM's CARD OF 'laws.FnJoinMatch'. -/
def fnJoinMatchUptoCard : Claim7 := { stood := { row := fnJoinMatchUptoRow, standIns := [], harness := (true, "b0fb4999470dd49dcf554fc18fa9600aba85fe7570ba9f3013e3bebc6b931e72"), looks := true }, kinds := [], alts := [], laidByText := true, laidKinds := [.data, .sentinel, .pinned], laidTests := true, laidLooks := .later }
def FnJoinMatchUptoCardSaid : Prop := Claim7.holds Tryd.pinned (.plain (OpenSpec.upto fnJoinMatchSpec)) fnJoinMatchUptoCard

/-- THE SECOND FORM's CARD OF 'laws.FnAnyMany'. -/
def fnAnyManyUptoCard : Claim7 := { stood := { row := fnAnyManyUptoRow, standIns := [], harness := (true, "b0fb4999470dd49dcf554fc18fa9600aba85fe7570ba9f3013e3bebc6b931e72"), looks := true }, kinds := [], alts := [], laidByText := true, laidKinds := [.data, .sentinel, .pinned], laidTests := true, laidLooks := .later }
def FnAnyManyUptoCardSaid : Prop := Claim7.holds Tryd.pinned (.plain (OpenSpec.upto fnAnyManySpec)) fnAnyManyUptoCard
end Rows
end Go.Proofs.YtpmgemlfpihdbaaDoor

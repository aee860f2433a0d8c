/-
  DERIVED. GIVEN WITH THE SEED: THE CARDS: each row of YtefkgdbmndhebaaDoorRows.lean that lists a variable, with what it lists TIED to the program's text (the seventh form; the later family's looks); each row that meets fmt, with fmt's text TOLD by the authors' own Lean function (tested against real Go, not proved from fmt's source: count such statements apart). THE CARD IS WHAT COUNTS. Prove the row's statement (the work); the ties are given (YtefkgdbmndhebaaDoorTie.lean); close each card by the builder's one call (the guide's Derived/Test/ToyasCard.lean, 'card_holds'). Laid BY PROGRAM, IN A SANDBOX (cutbox-door.mjs). By AI agents, Wed Nov 11 2026. No macro, syntax, notation, axiom, sorry.
-/
import Derived.Test.YtefkgdbmndhebaaDoorRows
import GoSem.ClaimSeven
namespace Go.Proofs.YtefkgdbmndhebaaDoor
namespace Rows

/-- THE TIED CARD OF 'laws.FnAnyHead'. -/
def fnAnyHeadCard : Claim7 := { stood := { row := fnAnyHeadRow, standIns := [], harness := (true, "e3ee314d71791ac736299c27578c4af990b8501a1ee42e82c613e9e36ccd7179"), looks := true }, kinds := [], alts := [], laidByText := true, laidKinds := [.data, .sentinel, .pinned], laidTests := true, laidLooks := .later }
def FnAnyHeadCardSaid : Prop := Claim7.holds Tryd.pinned (.plain (OpenSpec.ofChange fnAnyHeadSpec)) fnAnyHeadCard

/-- THE TIED CARD OF 'laws.FnAnyTail'. -/
def fnAnyTailCard : Claim7 := { stood := { row := fnAnyTailRow, standIns := [], harness := (true, "e3ee314d71791ac736299c27578c4af990b8501a1ee42e82c613e9e36ccd7179"), looks := true }, kinds := [], alts := [], laidByText := true, laidKinds := [.data, .sentinel, .pinned], laidTests := true, laidLooks := .later }
def FnAnyTailCardSaid : Prop := Claim7.holds Tryd.pinned (.plain (OpenSpec.ofChange fnAnyTailSpec)) fnAnyTailCard

/-- THE TIED CARD OF 'laws.FnClassAll'. -/
def fnClassAllCard : Claim7 := { stood := { row := fnClassAllRow, standIns := [], harness := (true, "e3ee314d71791ac736299c27578c4af990b8501a1ee42e82c613e9e36ccd7179"), looks := true }, kinds := [], alts := [], laidByText := true, laidKinds := [.data, .sentinel, .pinned], laidTests := true, laidLooks := .later }
def FnClassAllCardSaid : Prop := Claim7.holds Tryd.pinned (.plain (OpenSpec.ofChange fnClassAllSpec)) fnClassAllCard

/-- THE TIED CARD OF 'laws.FnConcat'. -/
def fnConcatCard : Claim7 := { stood := { row := fnConcatRow, standIns := [], harness := (true, "e3ee314d71791ac736299c27578c4af990b8501a1ee42e82c613e9e36ccd7179"), looks := true }, kinds := [], alts := [], laidByText := true, laidKinds := [.data, .sentinel, .pinned], laidTests := true, laidLooks := .later }
def FnConcatCardSaid : Prop := Claim7.holds Tryd.pinned (.plain (OpenSpec.ofChange fnConcatSpec)) fnConcatCard

/-- THE TIED CARD OF 'laws.FnOneStar'. -/
def fnOneStarCard : Claim7 := { stood := { row := fnOneStarRow, standIns := [], harness := (true, "e3ee314d71791ac736299c27578c4af990b8501a1ee42e82c613e9e36ccd7179"), looks := true }, kinds := [], alts := [], laidByText := true, laidKinds := [.data, .sentinel, .pinned], laidTests := true, laidLooks := .later }
def FnOneStarCardSaid : Prop := Claim7.holds Tryd.pinned (.plain (OpenSpec.ofChange fnOneStarSpec)) fnOneStarCard

/-- THE TIED CARD OF 'laws.FnSlashNone'. -/
def fnSlashNoneCard : Claim7 := { stood := { row := fnSlashNoneRow, standIns := [], harness := (true, "e3ee314d71791ac736299c27578c4af990b8501a1ee42e82c613e9e36ccd7179"), looks := true }, kinds := [], alts := [], laidByText := true, laidKinds := [.data, .sentinel, .pinned], laidTests := true, laidLooks := .later }
def FnSlashNoneCardSaid : Prop := Claim7.holds Tryd.pinned (.plain (OpenSpec.ofChange fnSlashNoneSpec)) fnSlashNoneCard

/-- THE TIED CARD OF 'laws.FnSlashNoneBytes'. -/
def fnSlashNoneBytesCard : Claim7 := { stood := { row := fnSlashNoneBytesRow, standIns := [], harness := (true, "e3ee314d71791ac736299c27578c4af990b8501a1ee42e82c613e9e36ccd7179"), looks := true }, kinds := [], alts := [], laidByText := true, laidKinds := [.data, .sentinel, .pinned], laidTests := true, laidLooks := .later }
def FnSlashNoneBytesCardSaid : Prop := Claim7.holds Tryd.pinned (.plain (OpenSpec.ofChange fnSlashNoneBytesSpec)) fnSlashNoneBytesCard

/-- THE TIED CARD OF 'laws.FnStarAlone'. -/
def fnStarAloneCard : Claim7 := { stood := { row := fnStarAloneRow, standIns := [], harness := (true, "e3ee314d71791ac736299c27578c4af990b8501a1ee42e82c613e9e36ccd7179"), looks := true }, kinds := [], alts := [], laidByText := true, laidKinds := [.data, .sentinel, .pinned], laidTests := true, laidLooks := .later }
def FnStarAloneCardSaid : Prop := Claim7.holds Tryd.pinned (.plain (OpenSpec.ofChange fnStarAloneSpec)) fnStarAloneCard

/-- THE TIED CARD OF 'laws.FnStarEmpty'. -/
def fnStarEmptyCard : Claim7 := { stood := { row := fnStarEmptyRow, standIns := [], harness := (true, "e3ee314d71791ac736299c27578c4af990b8501a1ee42e82c613e9e36ccd7179"), looks := true }, kinds := [], alts := [], laidByText := true, laidKinds := [.data, .sentinel, .pinned], laidTests := true, laidLooks := .later }
def FnStarEmptyCardSaid : Prop := Claim7.holds Tryd.pinned (.plain (OpenSpec.ofChange fnStarEmptySpec)) fnStarEmptyCard

/-- THE TIED CARD OF 'laws.FnStarHead'. -/
def fnStarHeadCard : Claim7 := { stood := { row := fnStarHeadRow, standIns := [], harness := (true, "e3ee314d71791ac736299c27578c4af990b8501a1ee42e82c613e9e36ccd7179"), looks := true }, kinds := [], alts := [], laidByText := true, laidKinds := [.data, .sentinel, .pinned], laidTests := true, laidLooks := .later }
def FnStarHeadCardSaid : Prop := Claim7.holds Tryd.pinned (.plain (OpenSpec.ofChange fnStarHeadSpec)) fnStarHeadCard

/-- THE TIED CARD OF 'laws.FnStarOne'. -/
def fnStarOneCard : Claim7 := { stood := { row := fnStarOneRow, standIns := [], harness := (true, "e3ee314d71791ac736299c27578c4af990b8501a1ee42e82c613e9e36ccd7179"), looks := true }, kinds := [], alts := [], laidByText := true, laidKinds := [.data, .sentinel, .pinned], laidTests := true, laidLooks := .later }
def FnStarOneCardSaid : Prop := Claim7.holds Tryd.pinned (.plain (OpenSpec.ofChange fnStarOneSpec)) fnStarOneCard

/-- THE TIED CARD OF 'laws.FnQuoteTail'. -/
def fnQuoteTailCard : Claim7 := { stood := { row := fnQuoteTailRow, standIns := [], harness := (true, "e3ee314d71791ac736299c27578c4af990b8501a1ee42e82c613e9e36ccd7179"), looks := true }, kinds := [], alts := [], laidByText := true, laidKinds := [.data, .sentinel, .pinned], laidTests := true, laidLooks := .later }
def FnQuoteTailCardSaid : Prop := Claim7.holds Tryd.pinned (.plain (OpenSpec.ofChange fnQuoteTailSpec)) fnQuoteTailCard

/-- THE SECOND FORM's CARD OF 'laws.FnAnyHead'. -/
def fnAnyHeadUptoCard : Claim7 := { stood := { row := fnAnyHeadUptoRow, standIns := [], harness := (true, "e3ee314d71791ac736299c27578c4af990b8501a1ee42e82c613e9e36ccd7179"), looks := true }, kinds := [], alts := [], laidByText := true, laidKinds := [.data, .sentinel, .pinned], laidTests := true, laidLooks := .later }
def FnAnyHeadUptoCardSaid : Prop := Claim7.holds Tryd.pinned (.plain (OpenSpec.upto fnAnyHeadSpec)) fnAnyHeadUptoCard

/-- THE SECOND FORM's CARD OF 'laws.FnAnyTail'. -/
def fnAnyTailUptoCard : Claim7 := { stood := { row := fnAnyTailUptoRow, standIns := [], harness := (true, "e3ee314d71791ac736299c27578c4af990b8501a1ee42e82c613e9e36ccd7179"), looks := true }, kinds := [], alts := [], laidByText := true, laidKinds := [.data, .sentinel, .pinned], laidTests := true, laidLooks := .later }
def FnAnyTailUptoCardSaid : Prop := Claim7.holds Tryd.pinned (.plain (OpenSpec.upto fnAnyTailSpec)) fnAnyTailUptoCard

/-- THE SECOND FORM's CARD OF 'laws.FnClassAll'. -/
def fnClassAllUptoCard : Claim7 := { stood := { row := fnClassAllUptoRow, standIns := [], harness := (true, "e3ee314d71791ac736299c27578c4af990b8501a1ee42e82c613e9e36ccd7179"), looks := true }, kinds := [], alts := [], laidByText := true, laidKinds := [.data, .sentinel, .pinned], laidTests := true, laidLooks := .later }
def FnClassAllUptoCardSaid : Prop := Claim7.holds Tryd.pinned (.plain (OpenSpec.upto fnClassAllSpec)) fnClassAllUptoCard

/-- THE SECOND FORM's CARD OF 'laws.FnConcat'. -/
def fnConcatUptoCard : Claim7 := { stood := { row := fnConcatUptoRow, standIns := [], harness := (true, "e3ee314d71791ac736299c27578c4af990b8501a1ee42e82c613e9e36ccd7179"), looks := true }, kinds := [], alts := [], laidByText := true, laidKinds := [.data, .sentinel, .pinned], laidTests := true, laidLooks := .later }
def FnConcatUptoCardSaid : Prop := Claim7.holds Tryd.pinned (.plain (OpenSpec.upto fnConcatSpec)) fnConcatUptoCard

/-- THE SECOND FORM's CARD OF 'laws.FnOneStar'. -/
def fnOneStarUptoCard : Claim7 := { stood := { row := fnOneStarUptoRow, standIns := [], harness := (true, "e3ee314d71791ac736299c27578c4af990b8501a1ee42e82c613e9e36ccd7179"), looks := true }, kinds := [], alts := [], laidByText := true, laidKinds := [.data, .sentinel, .pinned], laidTests := true, laidLooks := .later }
def FnOneStarUptoCardSaid : Prop := Claim7.holds Tryd.pinned (.plain (OpenSpec.upto fnOneStarSpec)) fnOneStarUptoCard

/-- THE SECOND FORM's CARD OF 'laws.FnSlashNone'. -/
def fnSlashNoneUptoCard : Claim7 := { stood := { row := fnSlashNoneUptoRow, standIns := [], harness := (true, "e3ee314d71791ac736299c27578c4af990b8501a1ee42e82c613e9e36ccd7179"), looks := true }, kinds := [], alts := [], laidByText := true, laidKinds := [.data, .sentinel, .pinned], laidTests := true, laidLooks := .later }
def FnSlashNoneUptoCardSaid : Prop := Claim7.holds Tryd.pinned (.plain (OpenSpec.upto fnSlashNoneSpec)) fnSlashNoneUptoCard

/-- THE SECOND FORM's CARD OF 'laws.FnSlashNoneBytes'. -/
def fnSlashNoneBytesUptoCard : Claim7 := { stood := { row := fnSlashNoneBytesUptoRow, standIns := [], harness := (true, "e3ee314d71791ac736299c27578c4af990b8501a1ee42e82c613e9e36ccd7179"), looks := true }, kinds := [], alts := [], laidByText := true, laidKinds := [.data, .sentinel, .pinned], laidTests := true, laidLooks := .later }
def FnSlashNoneBytesUptoCardSaid : Prop := Claim7.holds Tryd.pinned (.plain (OpenSpec.upto fnSlashNoneBytesSpec)) fnSlashNoneBytesUptoCard

/-- THE SECOND FORM's CARD OF 'laws.FnStarAlone'. -/
def fnStarAloneUptoCard : Claim7 := { stood := { row := fnStarAloneUptoRow, standIns := [], harness := (true, "e3ee314d71791ac736299c27578c4af990b8501a1ee42e82c613e9e36ccd7179"), looks := true }, kinds := [], alts := [], laidByText := true, laidKinds := [.data, .sentinel, .pinned], laidTests := true, laidLooks := .later }
def FnStarAloneUptoCardSaid : Prop := Claim7.holds Tryd.pinned (.plain (OpenSpec.upto fnStarAloneSpec)) fnStarAloneUptoCard

/-- THE SECOND FORM's CARD OF 'laws.FnStarEmpty'. -/
def fnStarEmptyUptoCard : Claim7 := { stood := { row := fnStarEmptyUptoRow, standIns := [], harness := (true, "e3ee314d71791ac736299c27578c4af990b8501a1ee42e82c613e9e36ccd7179"), looks := true }, kinds := [], alts := [], laidByText := true, laidKinds := [.data, .sentinel, .pinned], laidTests := true, laidLooks := .later }
def FnStarEmptyUptoCardSaid : Prop := Claim7.holds Tryd.pinned (.plain (OpenSpec.upto fnStarEmptySpec)) fnStarEmptyUptoCard

/-- THE SECOND FORM's CARD OF 'laws.FnStarHead'. -/
def fnStarHeadUptoCard : Claim7 := { stood := { row := fnStarHeadUptoRow, standIns := [], harness := (true, "e3ee314d71791ac736299c27578c4af990b8501a1ee42e82c613e9e36ccd7179"), looks := true }, kinds := [], alts := [], laidByText := true, laidKinds := [.data, .sentinel, .pinned], laidTests := true, laidLooks := .later }
def FnStarHeadUptoCardSaid : Prop := Claim7.holds Tryd.pinned (.plain (OpenSpec.upto fnStarHeadSpec)) fnStarHeadUptoCard

/-- THE SECOND FORM's CARD OF 'laws.FnStarOne'. -/
def fnStarOneUptoCard : Claim7 := { stood := { row := fnStarOneUptoRow, standIns := [], harness := (true, "e3ee314d71791ac736299c27578c4af990b8501a1ee42e82c613e9e36ccd7179"), looks := true }, kinds := [], alts := [], laidByText := true, laidKinds := [.data, .sentinel, .pinned], laidTests := true, laidLooks := .later }
def FnStarOneUptoCardSaid : Prop := Claim7.holds Tryd.pinned (.plain (OpenSpec.upto fnStarOneSpec)) fnStarOneUptoCard

/-- THE SECOND FORM's CARD OF 'laws.FnQuoteTail'. -/
def fnQuoteTailUptoCard : Claim7 := { stood := { row := fnQuoteTailUptoRow, standIns := [], harness := (true, "e3ee314d71791ac736299c27578c4af990b8501a1ee42e82c613e9e36ccd7179"), looks := true }, kinds := [], alts := [], laidByText := true, laidKinds := [.data, .sentinel, .pinned], laidTests := true, laidLooks := .later }
def FnQuoteTailUptoCardSaid : Prop := Claim7.holds Tryd.pinned (.plain (OpenSpec.upto fnQuoteTailSpec)) fnQuoteTailUptoCard
end Rows
end Go.Proofs.YtefkgdbmndhebaaDoor

/-
  DERIVED. GIVEN WITH THE SEED: THE CARDS: each row of YtpkhcndhckocnaaDoorRows.lean that lists a variable, with what it lists TIED to the program's text (the seventh form; the later family's looks); each row that meets fmt, with fmt's text TOLD by the authors' own Lean function (tested against real Go, not proved from fmt's source: count such statements apart). THE CARD IS WHAT COUNTS. Prove the row's statement (the work); the ties are given (YtpkhcndhckocnaaDoorTie.lean); close each card by the builder's one call (the guide's Derived/Test/ToyasCard.lean, 'card_holds'). Laid BY PROGRAM, IN A SANDBOX (cutbox-door.mjs). By AI agents, Wed Nov 11 2026. No macro, syntax, notation, axiom, sorry.
-/
import Derived.Test.YtpkhcndhckocnaaDoorRows
import GoSem.ClaimSeven
namespace Go.Proofs.YtpkhcndhckocnaaDoor
namespace Rows

/-- THE TIED CARD OF 'laws.FnAnyTail'. -/
def fnAnyTailCard : Claim7 := { stood := { row := fnAnyTailRow, standIns := [], harness := (true, "c5639dda570ea47736e6c05f5169b2d6027e7da9a21826144c4b5d09e794d0f0"), looks := true }, kinds := [], alts := [], laidByText := true, laidKinds := [.data, .sentinel, .pinned], laidTests := true, laidLooks := .later }
def FnAnyTailCardSaid : Prop := Claim7.holds Tryd.pinned (.plain (OpenSpec.ofChange fnAnyTailSpec)) fnAnyTailCard

/-- THE TIED CARD OF 'laws.FnClassSingle'. -/
def fnClassSingleCard : Claim7 := { stood := { row := fnClassSingleRow, standIns := [], harness := (true, "c5639dda570ea47736e6c05f5169b2d6027e7da9a21826144c4b5d09e794d0f0"), looks := true }, kinds := [], alts := [], laidByText := true, laidKinds := [.data, .sentinel, .pinned], laidTests := true, laidLooks := .later }
def FnClassSingleCardSaid : Prop := Claim7.holds Tryd.pinned (.plain (OpenSpec.ofChange fnClassSingleSpec)) fnClassSingleCard

/-- THE TIED CARD OF 'laws.FnNarrowerClass'. -/
def fnNarrowerClassCard : Claim7 := { stood := { row := fnNarrowerClassRow, standIns := [], harness := (true, "c5639dda570ea47736e6c05f5169b2d6027e7da9a21826144c4b5d09e794d0f0"), looks := true }, kinds := [], alts := [], laidByText := true, laidKinds := [.data, .sentinel, .pinned], laidTests := true, laidLooks := .later }
def FnNarrowerClassCardSaid : Prop := Claim7.holds Tryd.pinned (.plain (OpenSpec.ofChange fnNarrowerClassSpec)) fnNarrowerClassCard

/-- THE TIED CARD OF 'laws.FnStarAround'. -/
def fnStarAroundCard : Claim7 := { stood := { row := fnStarAroundRow, standIns := [], harness := (true, "c5639dda570ea47736e6c05f5169b2d6027e7da9a21826144c4b5d09e794d0f0"), looks := true }, kinds := [], alts := [], laidByText := true, laidKinds := [.data, .sentinel, .pinned], laidTests := true, laidLooks := .later }
def FnStarAroundCardSaid : Prop := Claim7.holds Tryd.pinned (.plain (OpenSpec.ofChange fnStarAroundSpec)) fnStarAroundCard

/-- THE TIED CARD OF 'laws.FnStarContains'. -/
def fnStarContainsCard : Claim7 := { stood := { row := fnStarContainsRow, standIns := [], harness := (true, "c5639dda570ea47736e6c05f5169b2d6027e7da9a21826144c4b5d09e794d0f0"), looks := true }, kinds := [], alts := [], laidByText := true, laidKinds := [.data, .sentinel, .pinned], laidTests := true, laidLooks := .later }
def FnStarContainsCardSaid : Prop := Claim7.holds Tryd.pinned (.plain (OpenSpec.ofChange fnStarContainsSpec)) fnStarContainsCard

/-- THE TIED CARD OF 'laws.FnStarCuts'. -/
def fnStarCutsCard : Claim7 := { stood := { row := fnStarCutsRow, standIns := [], harness := (true, "c5639dda570ea47736e6c05f5169b2d6027e7da9a21826144c4b5d09e794d0f0"), looks := true }, kinds := [], alts := [], laidByText := true, laidKinds := [.data, .sentinel, .pinned], laidTests := true, laidLooks := .later }
def FnStarCutsCardSaid : Prop := Claim7.holds Tryd.pinned (.plain (OpenSpec.ofChange fnStarCutsSpec)) fnStarCutsCard

/-- THE TIED CARD OF 'laws.FnStarFill'. -/
def fnStarFillCard : Claim7 := { stood := { row := fnStarFillRow, standIns := [], harness := (true, "c5639dda570ea47736e6c05f5169b2d6027e7da9a21826144c4b5d09e794d0f0"), looks := true }, kinds := [], alts := [], laidByText := true, laidKinds := [.data, .sentinel, .pinned], laidTests := true, laidLooks := .later }
def FnStarFillCardSaid : Prop := Claim7.holds Tryd.pinned (.plain (OpenSpec.ofChange fnStarFillSpec)) fnStarFillCard

/-- THE TIED CARD OF 'laws.FnStarOrder'. -/
def fnStarOrderCard : Claim7 := { stood := { row := fnStarOrderRow, standIns := [], harness := (true, "c5639dda570ea47736e6c05f5169b2d6027e7da9a21826144c4b5d09e794d0f0"), looks := true }, kinds := [], alts := [], laidByText := true, laidKinds := [.data, .sentinel, .pinned], laidTests := true, laidLooks := .later }
def FnStarOrderCardSaid : Prop := Claim7.holds Tryd.pinned (.plain (OpenSpec.ofChange fnStarOrderSpec)) fnStarOrderCard

/-- THE TIED CARD OF 'laws.FnTurned'. -/
def fnTurnedCard : Claim7 := { stood := { row := fnTurnedRow, standIns := [], harness := (true, "c5639dda570ea47736e6c05f5169b2d6027e7da9a21826144c4b5d09e794d0f0"), looks := true }, kinds := [], alts := [], laidByText := true, laidKinds := [.data, .sentinel, .pinned], laidTests := true, laidLooks := .later }
def FnTurnedCardSaid : Prop := Claim7.holds Tryd.pinned (.plain (OpenSpec.ofChange fnTurnedSpec)) fnTurnedCard

/-- THE TIED CARD OF 'laws.FnWiderAny'. -/
def fnWiderAnyCard : Claim7 := { stood := { row := fnWiderAnyRow, standIns := [], harness := (true, "c5639dda570ea47736e6c05f5169b2d6027e7da9a21826144c4b5d09e794d0f0"), looks := true }, kinds := [], alts := [], laidByText := true, laidKinds := [.data, .sentinel, .pinned], laidTests := true, laidLooks := .later }
def FnWiderAnyCardSaid : Prop := Claim7.holds Tryd.pinned (.plain (OpenSpec.ofChange fnWiderAnySpec)) fnWiderAnyCard

/-- THE TIED CARD OF 'laws.FnWiderClass'. -/
def fnWiderClassCard : Claim7 := { stood := { row := fnWiderClassRow, standIns := [], harness := (true, "c5639dda570ea47736e6c05f5169b2d6027e7da9a21826144c4b5d09e794d0f0"), looks := true }, kinds := [], alts := [], laidByText := true, laidKinds := [.data, .sentinel, .pinned], laidTests := true, laidLooks := .later }
def FnWiderClassCardSaid : Prop := Claim7.holds Tryd.pinned (.plain (OpenSpec.ofChange fnWiderClassSpec)) fnWiderClassCard

/-- THE TIED CARD OF 'laws.FnWiderStar'. -/
def fnWiderStarCard : Claim7 := { stood := { row := fnWiderStarRow, standIns := [], harness := (true, "c5639dda570ea47736e6c05f5169b2d6027e7da9a21826144c4b5d09e794d0f0"), looks := true }, kinds := [], alts := [], laidByText := true, laidKinds := [.data, .sentinel, .pinned], laidTests := true, laidLooks := .later }
def FnWiderStarCardSaid : Prop := Claim7.holds Tryd.pinned (.plain (OpenSpec.ofChange fnWiderStarSpec)) fnWiderStarCard

/-- THE SECOND FORM's CARD OF 'laws.FnAnyTail'. -/
def fnAnyTailUptoCard : Claim7 := { stood := { row := fnAnyTailUptoRow, standIns := [], harness := (true, "c5639dda570ea47736e6c05f5169b2d6027e7da9a21826144c4b5d09e794d0f0"), looks := true }, kinds := [], alts := [], laidByText := true, laidKinds := [.data, .sentinel, .pinned], laidTests := true, laidLooks := .later }
def FnAnyTailUptoCardSaid : Prop := Claim7.holds Tryd.pinned (.plain (OpenSpec.upto fnAnyTailSpec)) fnAnyTailUptoCard

/-- THE SECOND FORM's CARD OF 'laws.FnClassSingle'. -/
def fnClassSingleUptoCard : Claim7 := { stood := { row := fnClassSingleUptoRow, standIns := [], harness := (true, "c5639dda570ea47736e6c05f5169b2d6027e7da9a21826144c4b5d09e794d0f0"), looks := true }, kinds := [], alts := [], laidByText := true, laidKinds := [.data, .sentinel, .pinned], laidTests := true, laidLooks := .later }
def FnClassSingleUptoCardSaid : Prop := Claim7.holds Tryd.pinned (.plain (OpenSpec.upto fnClassSingleSpec)) fnClassSingleUptoCard

/-- THE SECOND FORM's CARD OF 'laws.FnNarrowerClass'. -/
def fnNarrowerClassUptoCard : Claim7 := { stood := { row := fnNarrowerClassUptoRow, standIns := [], harness := (true, "c5639dda570ea47736e6c05f5169b2d6027e7da9a21826144c4b5d09e794d0f0"), looks := true }, kinds := [], alts := [], laidByText := true, laidKinds := [.data, .sentinel, .pinned], laidTests := true, laidLooks := .later }
def FnNarrowerClassUptoCardSaid : Prop := Claim7.holds Tryd.pinned (.plain (OpenSpec.upto fnNarrowerClassSpec)) fnNarrowerClassUptoCard

/-- THE SECOND FORM's CARD OF 'laws.FnStarAround'. -/
def fnStarAroundUptoCard : Claim7 := { stood := { row := fnStarAroundUptoRow, standIns := [], harness := (true, "c5639dda570ea47736e6c05f5169b2d6027e7da9a21826144c4b5d09e794d0f0"), looks := true }, kinds := [], alts := [], laidByText := true, laidKinds := [.data, .sentinel, .pinned], laidTests := true, laidLooks := .later }
def FnStarAroundUptoCardSaid : Prop := Claim7.holds Tryd.pinned (.plain (OpenSpec.upto fnStarAroundSpec)) fnStarAroundUptoCard

/-- THE SECOND FORM's CARD OF 'laws.FnStarContains'. -/
def fnStarContainsUptoCard : Claim7 := { stood := { row := fnStarContainsUptoRow, standIns := [], harness := (true, "c5639dda570ea47736e6c05f5169b2d6027e7da9a21826144c4b5d09e794d0f0"), looks := true }, kinds := [], alts := [], laidByText := true, laidKinds := [.data, .sentinel, .pinned], laidTests := true, laidLooks := .later }
def FnStarContainsUptoCardSaid : Prop := Claim7.holds Tryd.pinned (.plain (OpenSpec.upto fnStarContainsSpec)) fnStarContainsUptoCard

/-- THE SECOND FORM's CARD OF 'laws.FnStarCuts'. -/
def fnStarCutsUptoCard : Claim7 := { stood := { row := fnStarCutsUptoRow, standIns := [], harness := (true, "c5639dda570ea47736e6c05f5169b2d6027e7da9a21826144c4b5d09e794d0f0"), looks := true }, kinds := [], alts := [], laidByText := true, laidKinds := [.data, .sentinel, .pinned], laidTests := true, laidLooks := .later }
def FnStarCutsUptoCardSaid : Prop := Claim7.holds Tryd.pinned (.plain (OpenSpec.upto fnStarCutsSpec)) fnStarCutsUptoCard

/-- THE SECOND FORM's CARD OF 'laws.FnStarFill'. -/
def fnStarFillUptoCard : Claim7 := { stood := { row := fnStarFillUptoRow, standIns := [], harness := (true, "c5639dda570ea47736e6c05f5169b2d6027e7da9a21826144c4b5d09e794d0f0"), looks := true }, kinds := [], alts := [], laidByText := true, laidKinds := [.data, .sentinel, .pinned], laidTests := true, laidLooks := .later }
def FnStarFillUptoCardSaid : Prop := Claim7.holds Tryd.pinned (.plain (OpenSpec.upto fnStarFillSpec)) fnStarFillUptoCard

/-- THE SECOND FORM's CARD OF 'laws.FnStarOrder'. -/
def fnStarOrderUptoCard : Claim7 := { stood := { row := fnStarOrderUptoRow, standIns := [], harness := (true, "c5639dda570ea47736e6c05f5169b2d6027e7da9a21826144c4b5d09e794d0f0"), looks := true }, kinds := [], alts := [], laidByText := true, laidKinds := [.data, .sentinel, .pinned], laidTests := true, laidLooks := .later }
def FnStarOrderUptoCardSaid : Prop := Claim7.holds Tryd.pinned (.plain (OpenSpec.upto fnStarOrderSpec)) fnStarOrderUptoCard

/-- THE SECOND FORM's CARD OF 'laws.FnTurned'. -/
def fnTurnedUptoCard : Claim7 := { stood := { row := fnTurnedUptoRow, standIns := [], harness := (true, "c5639dda570ea47736e6c05f5169b2d6027e7da9a21826144c4b5d09e794d0f0"), looks := true }, kinds := [], alts := [], laidByText := true, laidKinds := [.data, .sentinel, .pinned], laidTests := true, laidLooks := .later }
def FnTurnedUptoCardSaid : Prop := Claim7.holds Tryd.pinned (.plain (OpenSpec.upto fnTurnedSpec)) fnTurnedUptoCard

/-- THE SECOND FORM's CARD OF 'laws.FnWiderAny'. -/
def fnWiderAnyUptoCard : Claim7 := { stood := { row := fnWiderAnyUptoRow, standIns := [], harness := (true, "c5639dda570ea47736e6c05f5169b2d6027e7da9a21826144c4b5d09e794d0f0"), looks := true }, kinds := [], alts := [], laidByText := true, laidKinds := [.data, .sentinel, .pinned], laidTests := true, laidLooks := .later }
def FnWiderAnyUptoCardSaid : Prop := Claim7.holds Tryd.pinned (.plain (OpenSpec.upto fnWiderAnySpec)) fnWiderAnyUptoCard

/-- THE SECOND FORM's CARD OF 'laws.FnWiderClass'. -/
def fnWiderClassUptoCard : Claim7 := { stood := { row := fnWiderClassUptoRow, standIns := [], harness := (true, "c5639dda570ea47736e6c05f5169b2d6027e7da9a21826144c4b5d09e794d0f0"), looks := true }, kinds := [], alts := [], laidByText := true, laidKinds := [.data, .sentinel, .pinned], laidTests := true, laidLooks := .later }
def FnWiderClassUptoCardSaid : Prop := Claim7.holds Tryd.pinned (.plain (OpenSpec.upto fnWiderClassSpec)) fnWiderClassUptoCard

/-- THE SECOND FORM's CARD OF 'laws.FnWiderStar'. -/
def fnWiderStarUptoCard : Claim7 := { stood := { row := fnWiderStarUptoRow, standIns := [], harness := (true, "c5639dda570ea47736e6c05f5169b2d6027e7da9a21826144c4b5d09e794d0f0"), looks := true }, kinds := [], alts := [], laidByText := true, laidKinds := [.data, .sentinel, .pinned], laidTests := true, laidLooks := .later }
def FnWiderStarUptoCardSaid : Prop := Claim7.holds Tryd.pinned (.plain (OpenSpec.upto fnWiderStarSpec)) fnWiderStarUptoCard
end Rows
end Go.Proofs.YtpkhcndhckocnaaDoor

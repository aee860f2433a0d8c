/-
  NARROWER THAN 'FOR EVERY INPUT', by the rows' own cells (each row's printed sentence says how): FnAnyTail: laid · FnClassSingle: laid · FnNarrowerClass: laid · FnStarAround: laid · FnStarContains: laid · FnStarCuts: laid · FnStarFill: laid · FnStarOrder: laid · FnTurned: laid · FnWiderAny: laid · FnWiderClass: laid · FnWiderStar: laid.
  DERIVED. THE GIVEN ROWS OF THIS SEAT. 12 by the template 'for every input the law returns true; each argument reads behind the call as it read before'; 0 by the template 'total and deterministic' (their statements: YtpkhcndhckocnaaDoorTotals.lean).
  GIVEN WITH THE SEED: the statements are not yours to turn. If you find one false, say at which input.
  Laid BY PROGRAM, IN A SANDBOX (cutbox-rows.mjs): the forced cells as the released guide's own fill.sh prints them over the translation a09bc1cb3fd074bc… (all of the seat's roots in one cut). By AI agents, Wed Nov 11 2026. No macro, syntax, notation, axiom, sorry.
-/
import Derived.Test.YtpkhcndhckocnaaDoorChecked
import GoSem.PinnedTables
import GoSem.Claim
import GoSem.ClaimJoined
import GoSem.ClaimMapViews
import Derived.JoinedTies
import Derived.KernelRfl
namespace Go.Proofs.YtpkhcndhckocnaaDoor
/- THE CELL 'sum', in the pinned program and in every row, IS THE sha256 OF THE DUMP (.gsa) THAT YtpkhcndhckocnaaDoorProg.lean LOADS. Nothing in Lean hashes anything: it is a label: what it is worth is what the hold of that sum in a sandbox is worth. -/
noncomputable def Tryd.pinned : Pinned := { name := "ytpkhcndhckocnaadoor", sum := "a09bc1cb3fd074bcad7303b1751d4790fe05b581f845b213c1911b866b618468", checked := Tryd.checked }
namespace Rows
def none {H : Type} : Left H := { results := [], args := [] }

/- WHAT THE LISTED PACKAGE-LEVEL VARIABLES READ AS WHEN THE CALL BEGINS. Each datum BY PROGRAM (the guide's laid-datum.mjs) off the statement by which the dump's own 'gosem.cut.vars' lays the variable. In a bare row this is a premise. The card (YtpkhcndhckocnaaDoorCards.lean) ties it to the program's text. -/
def laid_unicode_utf8_acceptRanges {H : Type} : DataW H := .agg [.agg [.lit (.int .u8 128), .lit (.int .u8 191)], .agg [.lit (.int .u8 160), .lit (.int .u8 191)], .agg [.lit (.int .u8 128), .lit (.int .u8 159)], .agg [.lit (.int .u8 144), .lit (.int .u8 191)], .agg [.lit (.int .u8 128), .lit (.int .u8 143)], .agg [.lit (.int .u8 0), .lit (.int .u8 0)], .agg [.lit (.int .u8 0), .lit (.int .u8 0)], .agg [.lit (.int .u8 0), .lit (.int .u8 0)], .agg [.lit (.int .u8 0), .lit (.int .u8 0)], .agg [.lit (.int .u8 0), .lit (.int .u8 0)], .agg [.lit (.int .u8 0), .lit (.int .u8 0)], .agg [.lit (.int .u8 0), .lit (.int .u8 0)], .agg [.lit (.int .u8 0), .lit (.int .u8 0)], .agg [.lit (.int .u8 0), .lit (.int .u8 0)], .agg [.lit (.int .u8 0), .lit (.int .u8 0)], .agg [.lit (.int .u8 0), .lit (.int .u8 0)]]
def laid_path_ErrBadPattern {H : Type} : DataW H := .iface "*errors.errorString" (.ptr (.agg [.lit (.string [115, 121, 110, 116, 97, 120, 32, 101, 114, 114, 111, 114, 32, 105, 110, 32, 112, 97, 116, 116, 101, 114, 110])]))
/-- One of Go's own tables, pinned by name: the form's constant. -/
def laid_unicode_utf8_first : DataW Unit := Go.Pinned.utf8First

/-- 'laws.FnAnyTail': WHATEVER THE INPUT: true; the input reads as it did. -/
def fnAnyTailSpec : ChangeSpec := { name := "fnAnyTail", fn := fun _ => fun
  | [d] => { results := [.lit (.bool true)], args := [d] }
  | _ => none }
def fnAnyTailRow : OpenClaim := { program := "ytpkhcndhckocnaadoor", sum := "a09bc1cb3fd074bcad7303b1751d4790fe05b581f845b213c1911b866b618468", func := "loop.example/lib-pathpatterns/laws.FnAnyTail", spec := "fnAnyTail", inPlace := ["internal/bytealg.IndexByteString", "internal/reflectlite.TypeOf", "internal/bytealg.IndexString"], unfollowed := true, recurses := true, named := ["path.ErrBadPattern", "unicode/utf8.first", "unicode/utf8.acceptRanges", "internal/bytealg.MaxLen"], apart := false, laid := [("unicode/utf8.acceptRanges", laid_unicode_utf8_acceptRanges), ("path.ErrBadPattern", laid_path_ErrBadPattern), ("unicode/utf8.first", laid_unicode_utf8_first)] }
def FnAnyTailSaid : Prop := fnAnyTailRow.holds Tryd.pinned (OpenSpec.ofChange fnAnyTailSpec)

/-- ITS FALSE NEIGHBOUR: 'it returns false'. Refute it at one input. -/
def fnAnyTailWrong : ChangeSpec := { name := "fnAnyTail", fn := fun _ => fun
  | [d] => { results := [.lit (.bool false)], args := [d] }
  | _ => none }
def FnAnyTailWrongFalsely : Prop := fnAnyTailRow.holds Tryd.pinned (OpenSpec.ofChange fnAnyTailWrong)

/-- 'laws.FnClassSingle': WHATEVER THE INPUT: true; the input reads as it did. -/
def fnClassSingleSpec : ChangeSpec := { name := "fnClassSingle", fn := fun _ => fun
  | [d] => { results := [.lit (.bool true)], args := [d] }
  | _ => none }
def fnClassSingleRow : OpenClaim := { program := "ytpkhcndhckocnaadoor", sum := "a09bc1cb3fd074bcad7303b1751d4790fe05b581f845b213c1911b866b618468", func := "loop.example/lib-pathpatterns/laws.FnClassSingle", spec := "fnClassSingle", inPlace := ["internal/bytealg.IndexByteString", "internal/reflectlite.TypeOf", "internal/bytealg.IndexString"], unfollowed := true, recurses := true, named := ["path.ErrBadPattern", "unicode/utf8.first", "unicode/utf8.acceptRanges", "internal/bytealg.MaxLen"], apart := false, laid := [("unicode/utf8.acceptRanges", laid_unicode_utf8_acceptRanges), ("path.ErrBadPattern", laid_path_ErrBadPattern), ("unicode/utf8.first", laid_unicode_utf8_first)] }
def FnClassSingleSaid : Prop := fnClassSingleRow.holds Tryd.pinned (OpenSpec.ofChange fnClassSingleSpec)

/-- ITS FALSE NEIGHBOUR: 'it returns false'. Refute it at one input. -/
def fnClassSingleWrong : ChangeSpec := { name := "fnClassSingle", fn := fun _ => fun
  | [d] => { results := [.lit (.bool false)], args := [d] }
  | _ => none }
def FnClassSingleWrongFalsely : Prop := fnClassSingleRow.holds Tryd.pinned (OpenSpec.ofChange fnClassSingleWrong)

/-- 'laws.FnNarrowerClass': WHATEVER THE INPUT: true; the input reads as it did. -/
def fnNarrowerClassSpec : ChangeSpec := { name := "fnNarrowerClass", fn := fun _ => fun
  | [d] => { results := [.lit (.bool true)], args := [d] }
  | _ => none }
def fnNarrowerClassRow : OpenClaim := { program := "ytpkhcndhckocnaadoor", sum := "a09bc1cb3fd074bcad7303b1751d4790fe05b581f845b213c1911b866b618468", func := "loop.example/lib-pathpatterns/laws.FnNarrowerClass", spec := "fnNarrowerClass", inPlace := ["internal/bytealg.IndexByteString", "internal/reflectlite.TypeOf", "internal/bytealg.IndexString"], unfollowed := true, recurses := true, named := ["path.ErrBadPattern", "unicode/utf8.first", "unicode/utf8.acceptRanges", "internal/bytealg.MaxLen"], apart := false, laid := [("unicode/utf8.acceptRanges", laid_unicode_utf8_acceptRanges), ("path.ErrBadPattern", laid_path_ErrBadPattern), ("unicode/utf8.first", laid_unicode_utf8_first)] }
def FnNarrowerClassSaid : Prop := fnNarrowerClassRow.holds Tryd.pinned (OpenSpec.ofChange fnNarrowerClassSpec)

/-- ITS FALSE NEIGHBOUR: 'it returns false'. Refute it at one input. -/
def fnNarrowerClassWrong : ChangeSpec := { name := "fnNarrowerClass", fn := fun _ => fun
  | [d] => { results := [.lit (.bool false)], args := [d] }
  | _ => none }
def FnNarrowerClassWrongFalsely : Prop := fnNarrowerClassRow.holds Tryd.pinned (OpenSpec.ofChange fnNarrowerClassWrong)

/-- 'laws.FnStarAround': WHATEVER THE INPUT: true; the input reads as it did. -/
def fnStarAroundSpec : ChangeSpec := { name := "fnStarAround", fn := fun _ => fun
  | [d] => { results := [.lit (.bool true)], args := [d] }
  | _ => none }
def fnStarAroundRow : OpenClaim := { program := "ytpkhcndhckocnaadoor", sum := "a09bc1cb3fd074bcad7303b1751d4790fe05b581f845b213c1911b866b618468", func := "loop.example/lib-pathpatterns/laws.FnStarAround", spec := "fnStarAround", inPlace := ["internal/bytealg.IndexByteString", "internal/bytealg.IndexString", "internal/reflectlite.TypeOf"], unfollowed := true, recurses := true, named := ["unicode/utf8.first", "unicode/utf8.acceptRanges", "internal/bytealg.MaxLen", "path.ErrBadPattern"], apart := false, laid := [("unicode/utf8.acceptRanges", laid_unicode_utf8_acceptRanges), ("path.ErrBadPattern", laid_path_ErrBadPattern), ("unicode/utf8.first", laid_unicode_utf8_first)] }
def FnStarAroundSaid : Prop := fnStarAroundRow.holds Tryd.pinned (OpenSpec.ofChange fnStarAroundSpec)

/-- ITS FALSE NEIGHBOUR: 'it returns false'. Refute it at one input. -/
def fnStarAroundWrong : ChangeSpec := { name := "fnStarAround", fn := fun _ => fun
  | [d] => { results := [.lit (.bool false)], args := [d] }
  | _ => none }
def FnStarAroundWrongFalsely : Prop := fnStarAroundRow.holds Tryd.pinned (OpenSpec.ofChange fnStarAroundWrong)

/-- 'laws.FnStarContains': WHATEVER THE INPUT: true; the input reads as it did. -/
def fnStarContainsSpec : ChangeSpec := { name := "fnStarContains", fn := fun _ => fun
  | [d] => { results := [.lit (.bool true)], args := [d] }
  | _ => none }
def fnStarContainsRow : OpenClaim := { program := "ytpkhcndhckocnaadoor", sum := "a09bc1cb3fd074bcad7303b1751d4790fe05b581f845b213c1911b866b618468", func := "loop.example/lib-pathpatterns/laws.FnStarContains", spec := "fnStarContains", inPlace := ["internal/bytealg.IndexByteString", "internal/bytealg.IndexString", "internal/reflectlite.TypeOf"], unfollowed := true, recurses := true, named := ["unicode/utf8.first", "unicode/utf8.acceptRanges", "internal/bytealg.MaxLen", "path.ErrBadPattern"], apart := false, laid := [("unicode/utf8.acceptRanges", laid_unicode_utf8_acceptRanges), ("path.ErrBadPattern", laid_path_ErrBadPattern), ("unicode/utf8.first", laid_unicode_utf8_first)] }
def FnStarContainsSaid : Prop := fnStarContainsRow.holds Tryd.pinned (OpenSpec.ofChange fnStarContainsSpec)

/-- ITS FALSE NEIGHBOUR: 'it returns false'. Refute it at one input. -/
def fnStarContainsWrong : ChangeSpec := { name := "fnStarContains", fn := fun _ => fun
  | [d] => { results := [.lit (.bool false)], args := [d] }
  | _ => none }
def FnStarContainsWrongFalsely : Prop := fnStarContainsRow.holds Tryd.pinned (OpenSpec.ofChange fnStarContainsWrong)

/-- 'laws.FnStarCuts': WHATEVER THE INPUT: true; the input reads as it did. -/
def fnStarCutsSpec : ChangeSpec := { name := "fnStarCuts", fn := fun _ => fun
  | [d] => { results := [.lit (.bool true)], args := [d] }
  | _ => none }
def fnStarCutsRow : OpenClaim := { program := "ytpkhcndhckocnaadoor", sum := "a09bc1cb3fd074bcad7303b1751d4790fe05b581f845b213c1911b866b618468", func := "loop.example/lib-pathpatterns/laws.FnStarCuts", spec := "fnStarCuts", inPlace := ["internal/bytealg.IndexByteString", "internal/reflectlite.TypeOf", "internal/bytealg.IndexString"], unfollowed := true, recurses := true, named := ["path.ErrBadPattern", "unicode/utf8.first", "unicode/utf8.acceptRanges", "internal/bytealg.MaxLen"], apart := false, laid := [("unicode/utf8.acceptRanges", laid_unicode_utf8_acceptRanges), ("path.ErrBadPattern", laid_path_ErrBadPattern), ("unicode/utf8.first", laid_unicode_utf8_first)] }
def FnStarCutsSaid : Prop := fnStarCutsRow.holds Tryd.pinned (OpenSpec.ofChange fnStarCutsSpec)

/-- ITS FALSE NEIGHBOUR: 'it returns false'. Refute it at one input. -/
def fnStarCutsWrong : ChangeSpec := { name := "fnStarCuts", fn := fun _ => fun
  | [d] => { results := [.lit (.bool false)], args := [d] }
  | _ => none }
def FnStarCutsWrongFalsely : Prop := fnStarCutsRow.holds Tryd.pinned (OpenSpec.ofChange fnStarCutsWrong)

/-- 'laws.FnStarFill': WHATEVER THE INPUT: true; the input reads as it did. -/
def fnStarFillSpec : ChangeSpec := { name := "fnStarFill", fn := fun _ => fun
  | [d] => { results := [.lit (.bool true)], args := [d] }
  | _ => none }
def fnStarFillRow : OpenClaim := { program := "ytpkhcndhckocnaadoor", sum := "a09bc1cb3fd074bcad7303b1751d4790fe05b581f845b213c1911b866b618468", func := "loop.example/lib-pathpatterns/laws.FnStarFill", spec := "fnStarFill", inPlace := ["internal/bytealg.IndexByteString", "internal/bytealg.IndexString", "internal/reflectlite.TypeOf"], unfollowed := true, recurses := true, named := ["unicode/utf8.first", "unicode/utf8.acceptRanges", "internal/bytealg.MaxLen", "path.ErrBadPattern"], apart := false, laid := [("unicode/utf8.acceptRanges", laid_unicode_utf8_acceptRanges), ("path.ErrBadPattern", laid_path_ErrBadPattern), ("unicode/utf8.first", laid_unicode_utf8_first)] }
def FnStarFillSaid : Prop := fnStarFillRow.holds Tryd.pinned (OpenSpec.ofChange fnStarFillSpec)

/-- ITS FALSE NEIGHBOUR: 'it returns false'. Refute it at one input. -/
def fnStarFillWrong : ChangeSpec := { name := "fnStarFill", fn := fun _ => fun
  | [d] => { results := [.lit (.bool false)], args := [d] }
  | _ => none }
def FnStarFillWrongFalsely : Prop := fnStarFillRow.holds Tryd.pinned (OpenSpec.ofChange fnStarFillWrong)

/-- 'laws.FnStarOrder': WHATEVER THE INPUT: true; the input reads as it did. -/
def fnStarOrderSpec : ChangeSpec := { name := "fnStarOrder", fn := fun _ => fun
  | [d] => { results := [.lit (.bool true)], args := [d] }
  | _ => none }
def fnStarOrderRow : OpenClaim := { program := "ytpkhcndhckocnaadoor", sum := "a09bc1cb3fd074bcad7303b1751d4790fe05b581f845b213c1911b866b618468", func := "loop.example/lib-pathpatterns/laws.FnStarOrder", spec := "fnStarOrder", inPlace := ["internal/bytealg.IndexByteString", "internal/bytealg.IndexString", "internal/reflectlite.TypeOf"], unfollowed := true, recurses := true, named := ["unicode/utf8.first", "unicode/utf8.acceptRanges", "internal/bytealg.MaxLen", "path.ErrBadPattern"], apart := false, laid := [("unicode/utf8.acceptRanges", laid_unicode_utf8_acceptRanges), ("path.ErrBadPattern", laid_path_ErrBadPattern), ("unicode/utf8.first", laid_unicode_utf8_first)] }
def FnStarOrderSaid : Prop := fnStarOrderRow.holds Tryd.pinned (OpenSpec.ofChange fnStarOrderSpec)

/-- ITS FALSE NEIGHBOUR: 'it returns false'. Refute it at one input. -/
def fnStarOrderWrong : ChangeSpec := { name := "fnStarOrder", fn := fun _ => fun
  | [d] => { results := [.lit (.bool false)], args := [d] }
  | _ => none }
def FnStarOrderWrongFalsely : Prop := fnStarOrderRow.holds Tryd.pinned (OpenSpec.ofChange fnStarOrderWrong)

/-- 'laws.FnTurned': WHATEVER THE INPUT: true; the input reads as it did. -/
def fnTurnedSpec : ChangeSpec := { name := "fnTurned", fn := fun _ => fun
  | [d] => { results := [.lit (.bool true)], args := [d] }
  | _ => none }
def fnTurnedRow : OpenClaim := { program := "ytpkhcndhckocnaadoor", sum := "a09bc1cb3fd074bcad7303b1751d4790fe05b581f845b213c1911b866b618468", func := "loop.example/lib-pathpatterns/laws.FnTurned", spec := "fnTurned", inPlace := ["internal/bytealg.IndexByteString", "internal/reflectlite.TypeOf", "internal/bytealg.IndexString"], unfollowed := true, recurses := true, named := ["path.ErrBadPattern", "unicode/utf8.first", "unicode/utf8.acceptRanges", "internal/bytealg.MaxLen"], apart := false, laid := [("unicode/utf8.acceptRanges", laid_unicode_utf8_acceptRanges), ("path.ErrBadPattern", laid_path_ErrBadPattern), ("unicode/utf8.first", laid_unicode_utf8_first)] }
def FnTurnedSaid : Prop := fnTurnedRow.holds Tryd.pinned (OpenSpec.ofChange fnTurnedSpec)

/-- ITS FALSE NEIGHBOUR: 'it returns false'. Refute it at one input. -/
def fnTurnedWrong : ChangeSpec := { name := "fnTurned", fn := fun _ => fun
  | [d] => { results := [.lit (.bool false)], args := [d] }
  | _ => none }
def FnTurnedWrongFalsely : Prop := fnTurnedRow.holds Tryd.pinned (OpenSpec.ofChange fnTurnedWrong)

/-- 'laws.FnWiderAny': WHATEVER THE INPUT: true; the input reads as it did. -/
def fnWiderAnySpec : ChangeSpec := { name := "fnWiderAny", fn := fun _ => fun
  | [d] => { results := [.lit (.bool true)], args := [d] }
  | _ => none }
def fnWiderAnyRow : OpenClaim := { program := "ytpkhcndhckocnaadoor", sum := "a09bc1cb3fd074bcad7303b1751d4790fe05b581f845b213c1911b866b618468", func := "loop.example/lib-pathpatterns/laws.FnWiderAny", spec := "fnWiderAny", inPlace := ["internal/bytealg.IndexByteString", "internal/reflectlite.TypeOf", "internal/bytealg.IndexString"], unfollowed := true, recurses := true, named := ["path.ErrBadPattern", "unicode/utf8.first", "unicode/utf8.acceptRanges", "internal/bytealg.MaxLen"], apart := false, laid := [("unicode/utf8.acceptRanges", laid_unicode_utf8_acceptRanges), ("path.ErrBadPattern", laid_path_ErrBadPattern), ("unicode/utf8.first", laid_unicode_utf8_first)] }
def FnWiderAnySaid : Prop := fnWiderAnyRow.holds Tryd.pinned (OpenSpec.ofChange fnWiderAnySpec)

/-- ITS FALSE NEIGHBOUR: 'it returns false'. Refute it at one input. -/
def fnWiderAnyWrong : ChangeSpec := { name := "fnWiderAny", fn := fun _ => fun
  | [d] => { results := [.lit (.bool false)], args := [d] }
  | _ => none }
def FnWiderAnyWrongFalsely : Prop := fnWiderAnyRow.holds Tryd.pinned (OpenSpec.ofChange fnWiderAnyWrong)

/-- 'laws.FnWiderClass': WHATEVER THE INPUT: true; the input reads as it did. -/
def fnWiderClassSpec : ChangeSpec := { name := "fnWiderClass", fn := fun _ => fun
  | [d] => { results := [.lit (.bool true)], args := [d] }
  | _ => none }
def fnWiderClassRow : OpenClaim := { program := "ytpkhcndhckocnaadoor", sum := "a09bc1cb3fd074bcad7303b1751d4790fe05b581f845b213c1911b866b618468", func := "loop.example/lib-pathpatterns/laws.FnWiderClass", spec := "fnWiderClass", inPlace := ["internal/bytealg.IndexByteString", "internal/reflectlite.TypeOf", "internal/bytealg.IndexString"], unfollowed := true, recurses := true, named := ["path.ErrBadPattern", "unicode/utf8.first", "unicode/utf8.acceptRanges", "internal/bytealg.MaxLen"], apart := false, laid := [("unicode/utf8.acceptRanges", laid_unicode_utf8_acceptRanges), ("path.ErrBadPattern", laid_path_ErrBadPattern), ("unicode/utf8.first", laid_unicode_utf8_first)] }
def FnWiderClassSaid : Prop := fnWiderClassRow.holds Tryd.pinned (OpenSpec.ofChange fnWiderClassSpec)

/-- ITS FALSE NEIGHBOUR: 'it returns false'. Refute it at one input. -/
def fnWiderClassWrong : ChangeSpec := { name := "fnWiderClass", fn := fun _ => fun
  | [d] => { results := [.lit (.bool false)], args := [d] }
  | _ => none }
def FnWiderClassWrongFalsely : Prop := fnWiderClassRow.holds Tryd.pinned (OpenSpec.ofChange fnWiderClassWrong)

/-- 'laws.FnWiderStar': WHATEVER THE INPUT: true; the input reads as it did. -/
def fnWiderStarSpec : ChangeSpec := { name := "fnWiderStar", fn := fun _ => fun
  | [d] => { results := [.lit (.bool true)], args := [d] }
  | _ => none }
def fnWiderStarRow : OpenClaim := { program := "ytpkhcndhckocnaadoor", sum := "a09bc1cb3fd074bcad7303b1751d4790fe05b581f845b213c1911b866b618468", func := "loop.example/lib-pathpatterns/laws.FnWiderStar", spec := "fnWiderStar", inPlace := ["internal/bytealg.IndexByteString", "internal/reflectlite.TypeOf", "internal/bytealg.IndexString"], unfollowed := true, recurses := true, named := ["path.ErrBadPattern", "unicode/utf8.first", "unicode/utf8.acceptRanges", "internal/bytealg.MaxLen"], apart := false, laid := [("unicode/utf8.acceptRanges", laid_unicode_utf8_acceptRanges), ("path.ErrBadPattern", laid_path_ErrBadPattern), ("unicode/utf8.first", laid_unicode_utf8_first)] }
def FnWiderStarSaid : Prop := fnWiderStarRow.holds Tryd.pinned (OpenSpec.ofChange fnWiderStarSpec)

/-- ITS FALSE NEIGHBOUR: 'it returns false'. Refute it at one input. -/
def fnWiderStarWrong : ChangeSpec := { name := "fnWiderStar", fn := fun _ => fun
  | [d] => { results := [.lit (.bool false)], args := [d] }
  | _ => none }
def FnWiderStarWrongFalsely : Prop := fnWiderStarRow.holds Tryd.pinned (OpenSpec.ofChange fnWiderStarWrong)

/- THE SECOND FORM. 'bulk': how many values and letters a reading holds, each counted each time it is reached (what is shared counts as often as it is met; a slice's spare places count too). A statement '..UptoSaid' is the law's where the arguments, and the package variables that the reading takes, are together of bulk at most 1048576: NARROWER than '..Said'. Prove '..Said' where nothing that the law and all that it calls make is longer than what came in: it says more and counts as full. Else prove '..UptoSaid'. A law counts once. -/
mutual
def uptoBulk {H : Type} : DataW H → Nat
  | .lit (.string bytes) => bytes.length + 1
  | .lit _ => 1
  | .nil => 1
  | .ptr d => uptoBulk d + 1
  | .slice elems spare => uptoBulkAll elems + uptoBulkAll spare + 1
  | .agg parts => uptoBulkAll parts + 1
  | .iface _ d => uptoBulk d + 1
  | .map entries => uptoBulkEntries entries + 1
  | .held _ => 1
def uptoBulkAll {H : Type} : List (DataW H) → Nat
  | [] => 0
  | d :: r => uptoBulk d + uptoBulkAll r
def uptoBulkEntries {H : Type} : List (Lit × DataW H) → Nat
  | [] => 0
  | x :: r => uptoBulkEntry x + uptoBulkEntries r
def uptoBulkEntry {H : Type} : Lit × DataW H → Nat
  | (.string bytes, d) => bytes.length + uptoBulk d + 1
  | (_, d) => uptoBulk d + 1
 end
def uptoSmall : (H : Type) → List (DataW H) → Bool := fun _ ds => decide (uptoBulkAll ds ≤ 1048576)
def OpenSpec.upto (s : _root_.Go.ChangeSpec) : _root_.Go.OpenSpec := { _root_.Go.OpenSpec.ofChange s with cond := some uptoSmall }

/-- 'laws.FnAnyTail', WHERE WHAT IT READS IS OF BULK AT MOST 1048576: true; the input reads as it did. -/
def fnAnyTailUptoRow : OpenClaim := { program := "ytpkhcndhckocnaadoor", sum := "a09bc1cb3fd074bcad7303b1751d4790fe05b581f845b213c1911b866b618468", func := "loop.example/lib-pathpatterns/laws.FnAnyTail", spec := "fnAnyTail", inPlace := ["internal/bytealg.IndexByteString", "internal/reflectlite.TypeOf", "internal/bytealg.IndexString"], unfollowed := true, recurses := true, named := ["path.ErrBadPattern", "unicode/utf8.first", "unicode/utf8.acceptRanges", "internal/bytealg.MaxLen"], apart := false, laid := [("unicode/utf8.acceptRanges", laid_unicode_utf8_acceptRanges), ("path.ErrBadPattern", laid_path_ErrBadPattern), ("unicode/utf8.first", laid_unicode_utf8_first)], narrowed := true }
def FnAnyTailUptoSaid : Prop := fnAnyTailUptoRow.holds Tryd.pinned (OpenSpec.upto fnAnyTailSpec)

/-- 'laws.FnClassSingle', WHERE WHAT IT READS IS OF BULK AT MOST 1048576: true; the input reads as it did. -/
def fnClassSingleUptoRow : OpenClaim := { program := "ytpkhcndhckocnaadoor", sum := "a09bc1cb3fd074bcad7303b1751d4790fe05b581f845b213c1911b866b618468", func := "loop.example/lib-pathpatterns/laws.FnClassSingle", spec := "fnClassSingle", inPlace := ["internal/bytealg.IndexByteString", "internal/reflectlite.TypeOf", "internal/bytealg.IndexString"], unfollowed := true, recurses := true, named := ["path.ErrBadPattern", "unicode/utf8.first", "unicode/utf8.acceptRanges", "internal/bytealg.MaxLen"], apart := false, laid := [("unicode/utf8.acceptRanges", laid_unicode_utf8_acceptRanges), ("path.ErrBadPattern", laid_path_ErrBadPattern), ("unicode/utf8.first", laid_unicode_utf8_first)], narrowed := true }
def FnClassSingleUptoSaid : Prop := fnClassSingleUptoRow.holds Tryd.pinned (OpenSpec.upto fnClassSingleSpec)

/-- 'laws.FnNarrowerClass', WHERE WHAT IT READS IS OF BULK AT MOST 1048576: true; the input reads as it did. -/
def fnNarrowerClassUptoRow : OpenClaim := { program := "ytpkhcndhckocnaadoor", sum := "a09bc1cb3fd074bcad7303b1751d4790fe05b581f845b213c1911b866b618468", func := "loop.example/lib-pathpatterns/laws.FnNarrowerClass", spec := "fnNarrowerClass", inPlace := ["internal/bytealg.IndexByteString", "internal/reflectlite.TypeOf", "internal/bytealg.IndexString"], unfollowed := true, recurses := true, named := ["path.ErrBadPattern", "unicode/utf8.first", "unicode/utf8.acceptRanges", "internal/bytealg.MaxLen"], apart := false, laid := [("unicode/utf8.acceptRanges", laid_unicode_utf8_acceptRanges), ("path.ErrBadPattern", laid_path_ErrBadPattern), ("unicode/utf8.first", laid_unicode_utf8_first)], narrowed := true }
def FnNarrowerClassUptoSaid : Prop := fnNarrowerClassUptoRow.holds Tryd.pinned (OpenSpec.upto fnNarrowerClassSpec)

/-- 'laws.FnStarAround', WHERE WHAT IT READS IS OF BULK AT MOST 1048576: true; the input reads as it did. -/
def fnStarAroundUptoRow : OpenClaim := { program := "ytpkhcndhckocnaadoor", sum := "a09bc1cb3fd074bcad7303b1751d4790fe05b581f845b213c1911b866b618468", func := "loop.example/lib-pathpatterns/laws.FnStarAround", spec := "fnStarAround", inPlace := ["internal/bytealg.IndexByteString", "internal/bytealg.IndexString", "internal/reflectlite.TypeOf"], unfollowed := true, recurses := true, named := ["unicode/utf8.first", "unicode/utf8.acceptRanges", "internal/bytealg.MaxLen", "path.ErrBadPattern"], apart := false, laid := [("unicode/utf8.acceptRanges", laid_unicode_utf8_acceptRanges), ("path.ErrBadPattern", laid_path_ErrBadPattern), ("unicode/utf8.first", laid_unicode_utf8_first)], narrowed := true }
def FnStarAroundUptoSaid : Prop := fnStarAroundUptoRow.holds Tryd.pinned (OpenSpec.upto fnStarAroundSpec)

/-- 'laws.FnStarContains', WHERE WHAT IT READS IS OF BULK AT MOST 1048576: true; the input reads as it did. -/
def fnStarContainsUptoRow : OpenClaim := { program := "ytpkhcndhckocnaadoor", sum := "a09bc1cb3fd074bcad7303b1751d4790fe05b581f845b213c1911b866b618468", func := "loop.example/lib-pathpatterns/laws.FnStarContains", spec := "fnStarContains", inPlace := ["internal/bytealg.IndexByteString", "internal/bytealg.IndexString", "internal/reflectlite.TypeOf"], unfollowed := true, recurses := true, named := ["unicode/utf8.first", "unicode/utf8.acceptRanges", "internal/bytealg.MaxLen", "path.ErrBadPattern"], apart := false, laid := [("unicode/utf8.acceptRanges", laid_unicode_utf8_acceptRanges), ("path.ErrBadPattern", laid_path_ErrBadPattern), ("unicode/utf8.first", laid_unicode_utf8_first)], narrowed := true }
def FnStarContainsUptoSaid : Prop := fnStarContainsUptoRow.holds Tryd.pinned (OpenSpec.upto fnStarContainsSpec)

/-- 'laws.FnStarCuts', WHERE WHAT IT READS IS OF BULK AT MOST 1048576: true; the input reads as it did. -/
def fnStarCutsUptoRow : OpenClaim := { program := "ytpkhcndhckocnaadoor", sum := "a09bc1cb3fd074bcad7303b1751d4790fe05b581f845b213c1911b866b618468", func := "loop.example/lib-pathpatterns/laws.FnStarCuts", spec := "fnStarCuts", inPlace := ["internal/bytealg.IndexByteString", "internal/reflectlite.TypeOf", "internal/bytealg.IndexString"], unfollowed := true, recurses := true, named := ["path.ErrBadPattern", "unicode/utf8.first", "unicode/utf8.acceptRanges", "internal/bytealg.MaxLen"], apart := false, laid := [("unicode/utf8.acceptRanges", laid_unicode_utf8_acceptRanges), ("path.ErrBadPattern", laid_path_ErrBadPattern), ("unicode/utf8.first", laid_unicode_utf8_first)], narrowed := true }
def FnStarCutsUptoSaid : Prop := fnStarCutsUptoRow.holds Tryd.pinned (OpenSpec.upto fnStarCutsSpec)

/-- 'laws.FnStarFill', WHERE WHAT IT READS IS OF BULK AT MOST 1048576: true; the input reads as it did. -/
def fnStarFillUptoRow : OpenClaim := { program := "ytpkhcndhckocnaadoor", sum := "a09bc1cb3fd074bcad7303b1751d4790fe05b581f845b213c1911b866b618468", func := "loop.example/lib-pathpatterns/laws.FnStarFill", spec := "fnStarFill", inPlace := ["internal/bytealg.IndexByteString", "internal/bytealg.IndexString", "internal/reflectlite.TypeOf"], unfollowed := true, recurses := true, named := ["unicode/utf8.first", "unicode/utf8.acceptRanges", "internal/bytealg.MaxLen", "path.ErrBadPattern"], apart := false, laid := [("unicode/utf8.acceptRanges", laid_unicode_utf8_acceptRanges), ("path.ErrBadPattern", laid_path_ErrBadPattern), ("unicode/utf8.first", laid_unicode_utf8_first)], narrowed := true }
def FnStarFillUptoSaid : Prop := fnStarFillUptoRow.holds Tryd.pinned (OpenSpec.upto fnStarFillSpec)

/-- 'laws.FnStarOrder', WHERE WHAT IT READS IS OF BULK AT MOST 1048576: true; the input reads as it did. -/
def fnStarOrderUptoRow : OpenClaim := { program := "ytpkhcndhckocnaadoor", sum := "a09bc1cb3fd074bcad7303b1751d4790fe05b581f845b213c1911b866b618468", func := "loop.example/lib-pathpatterns/laws.FnStarOrder", spec := "fnStarOrder", inPlace := ["internal/bytealg.IndexByteString", "internal/bytealg.IndexString", "internal/reflectlite.TypeOf"], unfollowed := true, recurses := true, named := ["unicode/utf8.first", "unicode/utf8.acceptRanges", "internal/bytealg.MaxLen", "path.ErrBadPattern"], apart := false, laid := [("unicode/utf8.acceptRanges", laid_unicode_utf8_acceptRanges), ("path.ErrBadPattern", laid_path_ErrBadPattern), ("unicode/utf8.first", laid_unicode_utf8_first)], narrowed := true }
def FnStarOrderUptoSaid : Prop := fnStarOrderUptoRow.holds Tryd.pinned (OpenSpec.upto fnStarOrderSpec)

/-- 'laws.FnTurned', WHERE WHAT IT READS IS OF BULK AT MOST 1048576: true; the input reads as it did. -/
def fnTurnedUptoRow : OpenClaim := { program := "ytpkhcndhckocnaadoor", sum := "a09bc1cb3fd074bcad7303b1751d4790fe05b581f845b213c1911b866b618468", func := "loop.example/lib-pathpatterns/laws.FnTurned", spec := "fnTurned", inPlace := ["internal/bytealg.IndexByteString", "internal/reflectlite.TypeOf", "internal/bytealg.IndexString"], unfollowed := true, recurses := true, named := ["path.ErrBadPattern", "unicode/utf8.first", "unicode/utf8.acceptRanges", "internal/bytealg.MaxLen"], apart := false, laid := [("unicode/utf8.acceptRanges", laid_unicode_utf8_acceptRanges), ("path.ErrBadPattern", laid_path_ErrBadPattern), ("unicode/utf8.first", laid_unicode_utf8_first)], narrowed := true }
def FnTurnedUptoSaid : Prop := fnTurnedUptoRow.holds Tryd.pinned (OpenSpec.upto fnTurnedSpec)

/-- 'laws.FnWiderAny', WHERE WHAT IT READS IS OF BULK AT MOST 1048576: true; the input reads as it did. -/
def fnWiderAnyUptoRow : OpenClaim := { program := "ytpkhcndhckocnaadoor", sum := "a09bc1cb3fd074bcad7303b1751d4790fe05b581f845b213c1911b866b618468", func := "loop.example/lib-pathpatterns/laws.FnWiderAny", spec := "fnWiderAny", inPlace := ["internal/bytealg.IndexByteString", "internal/reflectlite.TypeOf", "internal/bytealg.IndexString"], unfollowed := true, recurses := true, named := ["path.ErrBadPattern", "unicode/utf8.first", "unicode/utf8.acceptRanges", "internal/bytealg.MaxLen"], apart := false, laid := [("unicode/utf8.acceptRanges", laid_unicode_utf8_acceptRanges), ("path.ErrBadPattern", laid_path_ErrBadPattern), ("unicode/utf8.first", laid_unicode_utf8_first)], narrowed := true }
def FnWiderAnyUptoSaid : Prop := fnWiderAnyUptoRow.holds Tryd.pinned (OpenSpec.upto fnWiderAnySpec)

/-- 'laws.FnWiderClass', WHERE WHAT IT READS IS OF BULK AT MOST 1048576: true; the input reads as it did. -/
def fnWiderClassUptoRow : OpenClaim := { program := "ytpkhcndhckocnaadoor", sum := "a09bc1cb3fd074bcad7303b1751d4790fe05b581f845b213c1911b866b618468", func := "loop.example/lib-pathpatterns/laws.FnWiderClass", spec := "fnWiderClass", inPlace := ["internal/bytealg.IndexByteString", "internal/reflectlite.TypeOf", "internal/bytealg.IndexString"], unfollowed := true, recurses := true, named := ["path.ErrBadPattern", "unicode/utf8.first", "unicode/utf8.acceptRanges", "internal/bytealg.MaxLen"], apart := false, laid := [("unicode/utf8.acceptRanges", laid_unicode_utf8_acceptRanges), ("path.ErrBadPattern", laid_path_ErrBadPattern), ("unicode/utf8.first", laid_unicode_utf8_first)], narrowed := true }
def FnWiderClassUptoSaid : Prop := fnWiderClassUptoRow.holds Tryd.pinned (OpenSpec.upto fnWiderClassSpec)

/-- 'laws.FnWiderStar', WHERE WHAT IT READS IS OF BULK AT MOST 1048576: true; the input reads as it did. -/
def fnWiderStarUptoRow : OpenClaim := { program := "ytpkhcndhckocnaadoor", sum := "a09bc1cb3fd074bcad7303b1751d4790fe05b581f845b213c1911b866b618468", func := "loop.example/lib-pathpatterns/laws.FnWiderStar", spec := "fnWiderStar", inPlace := ["internal/bytealg.IndexByteString", "internal/reflectlite.TypeOf", "internal/bytealg.IndexString"], unfollowed := true, recurses := true, named := ["path.ErrBadPattern", "unicode/utf8.first", "unicode/utf8.acceptRanges", "internal/bytealg.MaxLen"], apart := false, laid := [("unicode/utf8.acceptRanges", laid_unicode_utf8_acceptRanges), ("path.ErrBadPattern", laid_path_ErrBadPattern), ("unicode/utf8.first", laid_unicode_utf8_first)], narrowed := true }
def FnWiderStarUptoSaid : Prop := fnWiderStarUptoRow.holds Tryd.pinned (OpenSpec.upto fnWiderStarSpec)

end Rows
end Go.Proofs.YtpkhcndhckocnaaDoor

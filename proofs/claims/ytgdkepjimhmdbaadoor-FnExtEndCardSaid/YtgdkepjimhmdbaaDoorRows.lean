/-
  NARROWER THAN 'FOR EVERY INPUT', by the rows' own cells (each row's printed sentence says how): FnStarTwiceBytes: laid · FnWrittenBytes: laid · FnMatchBadName: laid · FnMatchBadTail: laid · FnQuoteHeadOther: laid · FnSplitMatch: laid · FnSplitWhole: laid · FnExtStar: laid · FnCleanMatch: laid · FnStarAloneBytes: laid · FnExtEnd: laid · FnExactClean: laid.
  DERIVED. THE GIVEN ROWS OF THIS SEAT. 12 by the template 'for every input the law returns true; each argument reads behind the call as it read before'; 0 by the template 'total and deterministic' (their statements: YtgdkepjimhmdbaaDoorTotals.lean).
  GIVEN WITH THE SEED: the statements are not yours to turn. If you find one false, say at which input.
  Laid BY PROGRAM, IN A SANDBOX (cutbox-rows.mjs): the forced cells as the released guide's own fill.sh prints them over the translation e869889261c3930f… (all of the seat's roots in one cut). By AI agents, Wed Nov 11 2026. No macro, syntax, notation, axiom, sorry.
-/
import Derived.Test.YtgdkepjimhmdbaaDoorChecked
import GoSem.PinnedTables
import GoSem.Claim
import GoSem.ClaimJoined
import GoSem.ClaimMapViews
import Derived.JoinedTies
import Derived.KernelRfl
namespace Go.Proofs.YtgdkepjimhmdbaaDoor
/- THE CELL 'sum', in the pinned program and in every row, IS THE sha256 OF THE DUMP (.gsa) THAT YtgdkepjimhmdbaaDoorProg.lean LOADS. Nothing in Lean hashes anything: it is a label: what it is worth is what the hold of that sum in a sandbox is worth. -/
noncomputable def Tryd.pinned : Pinned := { name := "ytgdkepjimhmdbaadoor", sum := "e869889261c3930f44545c57e4760f0c842c4ce9f5b49a24dfa564d517dad091", checked := Tryd.checked }
namespace Rows
def none {H : Type} : Left H := { results := [], args := [] }

/- WHAT THE LISTED PACKAGE-LEVEL VARIABLES READ AS WHEN THE CALL BEGINS. Each datum BY PROGRAM (the guide's laid-datum.mjs) off the statement by which the dump's own 'gosem.cut.vars' lays the variable. In a bare row this is a premise. The card (YtgdkepjimhmdbaaDoorCards.lean) ties it to the program's text. -/
def laid_unicode_utf8_acceptRanges {H : Type} : DataW H := .agg [.agg [.lit (.int .u8 128), .lit (.int .u8 191)], .agg [.lit (.int .u8 160), .lit (.int .u8 191)], .agg [.lit (.int .u8 128), .lit (.int .u8 159)], .agg [.lit (.int .u8 144), .lit (.int .u8 191)], .agg [.lit (.int .u8 128), .lit (.int .u8 143)], .agg [.lit (.int .u8 0), .lit (.int .u8 0)], .agg [.lit (.int .u8 0), .lit (.int .u8 0)], .agg [.lit (.int .u8 0), .lit (.int .u8 0)], .agg [.lit (.int .u8 0), .lit (.int .u8 0)], .agg [.lit (.int .u8 0), .lit (.int .u8 0)], .agg [.lit (.int .u8 0), .lit (.int .u8 0)], .agg [.lit (.int .u8 0), .lit (.int .u8 0)], .agg [.lit (.int .u8 0), .lit (.int .u8 0)], .agg [.lit (.int .u8 0), .lit (.int .u8 0)], .agg [.lit (.int .u8 0), .lit (.int .u8 0)], .agg [.lit (.int .u8 0), .lit (.int .u8 0)]]
def laid_path_ErrBadPattern {H : Type} : DataW H := .iface "*errors.errorString" (.ptr (.agg [.lit (.string [115, 121, 110, 116, 97, 120, 32, 101, 114, 114, 111, 114, 32, 105, 110, 32, 112, 97, 116, 116, 101, 114, 110])]))
/-- One of Go's own tables, pinned by name: the form's constant. -/
def laid_unicode_utf8_first : DataW Unit := Go.Pinned.utf8First

/-- 'laws.FnStarTwiceBytes': WHATEVER THE INPUT: true; the input reads as it did. -/
def fnStarTwiceBytesSpec : ChangeSpec := { name := "fnStarTwiceBytes", fn := fun _ => fun
  | [d] => { results := [.lit (.bool true)], args := [d] }
  | _ => none }
def fnStarTwiceBytesRow : OpenClaim := { program := "ytgdkepjimhmdbaadoor", sum := "e869889261c3930f44545c57e4760f0c842c4ce9f5b49a24dfa564d517dad091", func := "loop.example/lib-pathpatterns/laws.FnStarTwiceBytes", spec := "fnStarTwiceBytes", inPlace := ["internal/bytealg.IndexByteString", "internal/reflectlite.TypeOf"], unfollowed := true, recurses := true, named := ["path.ErrBadPattern", "unicode/utf8.first", "unicode/utf8.acceptRanges"], apart := false, laid := [("unicode/utf8.acceptRanges", laid_unicode_utf8_acceptRanges), ("path.ErrBadPattern", laid_path_ErrBadPattern), ("unicode/utf8.first", laid_unicode_utf8_first)] }
def FnStarTwiceBytesSaid : Prop := fnStarTwiceBytesRow.holds Tryd.pinned (OpenSpec.ofChange fnStarTwiceBytesSpec)

/-- ITS FALSE NEIGHBOUR: 'it returns false'. Refute it at one input. -/
def fnStarTwiceBytesWrong : ChangeSpec := { name := "fnStarTwiceBytes", fn := fun _ => fun
  | [d] => { results := [.lit (.bool false)], args := [d] }
  | _ => none }
def FnStarTwiceBytesWrongFalsely : Prop := fnStarTwiceBytesRow.holds Tryd.pinned (OpenSpec.ofChange fnStarTwiceBytesWrong)

/-- 'laws.FnWrittenBytes': WHATEVER THE INPUT: true; the input reads as it did. -/
def fnWrittenBytesSpec : ChangeSpec := { name := "fnWrittenBytes", fn := fun _ => fun
  | [d] => { results := [.lit (.bool true)], args := [d] }
  | _ => none }
def fnWrittenBytesRow : OpenClaim := { program := "ytgdkepjimhmdbaadoor", sum := "e869889261c3930f44545c57e4760f0c842c4ce9f5b49a24dfa564d517dad091", func := "loop.example/lib-pathpatterns/laws.FnWrittenBytes", spec := "fnWrittenBytes", inPlace := ["internal/bytealg.IndexByteString", "internal/reflectlite.TypeOf"], unfollowed := true, recurses := true, named := ["path.ErrBadPattern", "unicode/utf8.first", "unicode/utf8.acceptRanges"], apart := false, laid := [("unicode/utf8.acceptRanges", laid_unicode_utf8_acceptRanges), ("path.ErrBadPattern", laid_path_ErrBadPattern), ("unicode/utf8.first", laid_unicode_utf8_first)] }
def FnWrittenBytesSaid : Prop := fnWrittenBytesRow.holds Tryd.pinned (OpenSpec.ofChange fnWrittenBytesSpec)

/-- ITS FALSE NEIGHBOUR: 'it returns false'. Refute it at one input. -/
def fnWrittenBytesWrong : ChangeSpec := { name := "fnWrittenBytes", fn := fun _ => fun
  | [d] => { results := [.lit (.bool false)], args := [d] }
  | _ => none }
def FnWrittenBytesWrongFalsely : Prop := fnWrittenBytesRow.holds Tryd.pinned (OpenSpec.ofChange fnWrittenBytesWrong)

/-- 'laws.FnMatchBadName': WHATEVER THE INPUT: true; the input reads as it did. -/
def fnMatchBadNameSpec : ChangeSpec := { name := "fnMatchBadName", fn := fun _ => fun
  | [d] => { results := [.lit (.bool true)], args := [d] }
  | _ => none }
def fnMatchBadNameRow : OpenClaim := { program := "ytgdkepjimhmdbaadoor", sum := "e869889261c3930f44545c57e4760f0c842c4ce9f5b49a24dfa564d517dad091", func := "loop.example/lib-pathpatterns/laws.FnMatchBadName", spec := "fnMatchBadName", inPlace := ["internal/bytealg.IndexByteString", "internal/reflectlite.TypeOf"], unfollowed := true, recurses := true, named := ["path.ErrBadPattern", "unicode/utf8.first", "unicode/utf8.acceptRanges"], apart := false, laid := [("unicode/utf8.acceptRanges", laid_unicode_utf8_acceptRanges), ("path.ErrBadPattern", laid_path_ErrBadPattern), ("unicode/utf8.first", laid_unicode_utf8_first)] }
def FnMatchBadNameSaid : Prop := fnMatchBadNameRow.holds Tryd.pinned (OpenSpec.ofChange fnMatchBadNameSpec)

/-- ITS FALSE NEIGHBOUR: 'it returns false'. Refute it at one input. -/
def fnMatchBadNameWrong : ChangeSpec := { name := "fnMatchBadName", fn := fun _ => fun
  | [d] => { results := [.lit (.bool false)], args := [d] }
  | _ => none }
def FnMatchBadNameWrongFalsely : Prop := fnMatchBadNameRow.holds Tryd.pinned (OpenSpec.ofChange fnMatchBadNameWrong)

/-- 'laws.FnMatchBadTail': WHATEVER THE INPUT: true; the input reads as it did. -/
def fnMatchBadTailSpec : ChangeSpec := { name := "fnMatchBadTail", fn := fun _ => fun
  | [d] => { results := [.lit (.bool true)], args := [d] }
  | _ => none }
def fnMatchBadTailRow : OpenClaim := { program := "ytgdkepjimhmdbaadoor", sum := "e869889261c3930f44545c57e4760f0c842c4ce9f5b49a24dfa564d517dad091", func := "loop.example/lib-pathpatterns/laws.FnMatchBadTail", spec := "fnMatchBadTail", inPlace := ["internal/bytealg.IndexByteString", "internal/reflectlite.TypeOf"], unfollowed := true, recurses := true, named := ["path.ErrBadPattern", "unicode/utf8.first", "unicode/utf8.acceptRanges"], apart := false, laid := [("unicode/utf8.acceptRanges", laid_unicode_utf8_acceptRanges), ("path.ErrBadPattern", laid_path_ErrBadPattern), ("unicode/utf8.first", laid_unicode_utf8_first)] }
def FnMatchBadTailSaid : Prop := fnMatchBadTailRow.holds Tryd.pinned (OpenSpec.ofChange fnMatchBadTailSpec)

/-- ITS FALSE NEIGHBOUR: 'it returns false'. Refute it at one input. -/
def fnMatchBadTailWrong : ChangeSpec := { name := "fnMatchBadTail", fn := fun _ => fun
  | [d] => { results := [.lit (.bool false)], args := [d] }
  | _ => none }
def FnMatchBadTailWrongFalsely : Prop := fnMatchBadTailRow.holds Tryd.pinned (OpenSpec.ofChange fnMatchBadTailWrong)

/-- 'laws.FnQuoteHeadOther': WHATEVER THE INPUT: true; the input reads as it did. -/
def fnQuoteHeadOtherSpec : ChangeSpec := { name := "fnQuoteHeadOther", fn := fun _ => fun
  | [d] => { results := [.lit (.bool true)], args := [d] }
  | _ => none }
def fnQuoteHeadOtherRow : OpenClaim := { program := "ytgdkepjimhmdbaadoor", sum := "e869889261c3930f44545c57e4760f0c842c4ce9f5b49a24dfa564d517dad091", func := "loop.example/lib-pathpatterns/laws.FnQuoteHeadOther", spec := "fnQuoteHeadOther", inPlace := ["internal/bytealg.IndexByteString", "internal/reflectlite.TypeOf"], unfollowed := true, recurses := true, named := ["path.ErrBadPattern", "unicode/utf8.first", "unicode/utf8.acceptRanges"], apart := false, laid := [("unicode/utf8.acceptRanges", laid_unicode_utf8_acceptRanges), ("path.ErrBadPattern", laid_path_ErrBadPattern), ("unicode/utf8.first", laid_unicode_utf8_first)] }
def FnQuoteHeadOtherSaid : Prop := fnQuoteHeadOtherRow.holds Tryd.pinned (OpenSpec.ofChange fnQuoteHeadOtherSpec)

/-- ITS FALSE NEIGHBOUR: 'it returns false'. Refute it at one input. -/
def fnQuoteHeadOtherWrong : ChangeSpec := { name := "fnQuoteHeadOther", fn := fun _ => fun
  | [d] => { results := [.lit (.bool false)], args := [d] }
  | _ => none }
def FnQuoteHeadOtherWrongFalsely : Prop := fnQuoteHeadOtherRow.holds Tryd.pinned (OpenSpec.ofChange fnQuoteHeadOtherWrong)

/-- 'laws.FnSplitMatch': WHATEVER THE INPUT: true; the input reads as it did. -/
def fnSplitMatchSpec : ChangeSpec := { name := "fnSplitMatch", fn := fun _ => fun
  | [d] => { results := [.lit (.bool true)], args := [d] }
  | _ => none }
def fnSplitMatchRow : OpenClaim := { program := "ytgdkepjimhmdbaadoor", sum := "e869889261c3930f44545c57e4760f0c842c4ce9f5b49a24dfa564d517dad091", func := "loop.example/lib-pathpatterns/laws.FnSplitMatch", spec := "fnSplitMatch", inPlace := ["internal/bytealg.IndexByteString", "internal/reflectlite.TypeOf"], unfollowed := true, recurses := true, named := ["unicode/utf8.first", "unicode/utf8.acceptRanges", "path.ErrBadPattern"], apart := false, laid := [("unicode/utf8.acceptRanges", laid_unicode_utf8_acceptRanges), ("path.ErrBadPattern", laid_path_ErrBadPattern), ("unicode/utf8.first", laid_unicode_utf8_first)] }
def FnSplitMatchSaid : Prop := fnSplitMatchRow.holds Tryd.pinned (OpenSpec.ofChange fnSplitMatchSpec)

/-- ITS FALSE NEIGHBOUR: 'it returns false'. Refute it at one input. -/
def fnSplitMatchWrong : ChangeSpec := { name := "fnSplitMatch", fn := fun _ => fun
  | [d] => { results := [.lit (.bool false)], args := [d] }
  | _ => none }
def FnSplitMatchWrongFalsely : Prop := fnSplitMatchRow.holds Tryd.pinned (OpenSpec.ofChange fnSplitMatchWrong)

/-- 'laws.FnSplitWhole': WHATEVER THE INPUT: true; the input reads as it did. -/
def fnSplitWholeSpec : ChangeSpec := { name := "fnSplitWhole", fn := fun _ => fun
  | [d] => { results := [.lit (.bool true)], args := [d] }
  | _ => none }
def fnSplitWholeRow : OpenClaim := { program := "ytgdkepjimhmdbaadoor", sum := "e869889261c3930f44545c57e4760f0c842c4ce9f5b49a24dfa564d517dad091", func := "loop.example/lib-pathpatterns/laws.FnSplitWhole", spec := "fnSplitWhole", inPlace := ["internal/bytealg.IndexByteString", "internal/reflectlite.TypeOf"], unfollowed := true, recurses := true, named := ["unicode/utf8.first", "unicode/utf8.acceptRanges", "path.ErrBadPattern"], apart := false, laid := [("unicode/utf8.acceptRanges", laid_unicode_utf8_acceptRanges), ("path.ErrBadPattern", laid_path_ErrBadPattern), ("unicode/utf8.first", laid_unicode_utf8_first)] }
def FnSplitWholeSaid : Prop := fnSplitWholeRow.holds Tryd.pinned (OpenSpec.ofChange fnSplitWholeSpec)

/-- ITS FALSE NEIGHBOUR: 'it returns false'. Refute it at one input. -/
def fnSplitWholeWrong : ChangeSpec := { name := "fnSplitWhole", fn := fun _ => fun
  | [d] => { results := [.lit (.bool false)], args := [d] }
  | _ => none }
def FnSplitWholeWrongFalsely : Prop := fnSplitWholeRow.holds Tryd.pinned (OpenSpec.ofChange fnSplitWholeWrong)

/-- 'laws.FnExtStar': WHATEVER THE INPUT: true; the input reads as it did. -/
def fnExtStarSpec : ChangeSpec := { name := "fnExtStar", fn := fun _ => fun
  | [d] => { results := [.lit (.bool true)], args := [d] }
  | _ => none }
def fnExtStarRow : OpenClaim := { program := "ytgdkepjimhmdbaadoor", sum := "e869889261c3930f44545c57e4760f0c842c4ce9f5b49a24dfa564d517dad091", func := "loop.example/lib-pathpatterns/laws.FnExtStar", spec := "fnExtStar", inPlace := ["internal/bytealg.IndexByteString", "internal/reflectlite.TypeOf"], unfollowed := true, recurses := true, named := ["unicode/utf8.first", "unicode/utf8.acceptRanges", "path.ErrBadPattern"], apart := false, laid := [("unicode/utf8.acceptRanges", laid_unicode_utf8_acceptRanges), ("path.ErrBadPattern", laid_path_ErrBadPattern), ("unicode/utf8.first", laid_unicode_utf8_first)] }
def FnExtStarSaid : Prop := fnExtStarRow.holds Tryd.pinned (OpenSpec.ofChange fnExtStarSpec)

/-- ITS FALSE NEIGHBOUR: 'it returns false'. Refute it at one input. -/
def fnExtStarWrong : ChangeSpec := { name := "fnExtStar", fn := fun _ => fun
  | [d] => { results := [.lit (.bool false)], args := [d] }
  | _ => none }
def FnExtStarWrongFalsely : Prop := fnExtStarRow.holds Tryd.pinned (OpenSpec.ofChange fnExtStarWrong)

/-- 'laws.FnCleanMatch': WHATEVER THE INPUT: true; the input reads as it did. -/
def fnCleanMatchSpec : ChangeSpec := { name := "fnCleanMatch", fn := fun _ => fun
  | [d] => { results := [.lit (.bool true)], args := [d] }
  | _ => none }
def fnCleanMatchRow : OpenClaim := { program := "ytgdkepjimhmdbaadoor", sum := "e869889261c3930f44545c57e4760f0c842c4ce9f5b49a24dfa564d517dad091", func := "loop.example/lib-pathpatterns/laws.FnCleanMatch", spec := "fnCleanMatch", inPlace := ["internal/bytealg.IndexByteString", "internal/reflectlite.TypeOf"], unfollowed := true, recurses := true, named := ["path.ErrBadPattern", "unicode/utf8.first", "unicode/utf8.acceptRanges"], apart := false, laid := [("unicode/utf8.acceptRanges", laid_unicode_utf8_acceptRanges), ("path.ErrBadPattern", laid_path_ErrBadPattern), ("unicode/utf8.first", laid_unicode_utf8_first)] }
def FnCleanMatchSaid : Prop := fnCleanMatchRow.holds Tryd.pinned (OpenSpec.ofChange fnCleanMatchSpec)

/-- ITS FALSE NEIGHBOUR: 'it returns false'. Refute it at one input. -/
def fnCleanMatchWrong : ChangeSpec := { name := "fnCleanMatch", fn := fun _ => fun
  | [d] => { results := [.lit (.bool false)], args := [d] }
  | _ => none }
def FnCleanMatchWrongFalsely : Prop := fnCleanMatchRow.holds Tryd.pinned (OpenSpec.ofChange fnCleanMatchWrong)

/-- 'laws.FnStarAloneBytes': WHATEVER THE INPUT: true; the input reads as it did. -/
def fnStarAloneBytesSpec : ChangeSpec := { name := "fnStarAloneBytes", fn := fun _ => fun
  | [d] => { results := [.lit (.bool true)], args := [d] }
  | _ => none }
def fnStarAloneBytesRow : OpenClaim := { program := "ytgdkepjimhmdbaadoor", sum := "e869889261c3930f44545c57e4760f0c842c4ce9f5b49a24dfa564d517dad091", func := "loop.example/lib-pathpatterns/laws.FnStarAloneBytes", spec := "fnStarAloneBytes", inPlace := ["internal/bytealg.IndexByteString", "internal/reflectlite.TypeOf", "internal/bytealg.IndexString"], unfollowed := true, recurses := true, named := ["path.ErrBadPattern", "unicode/utf8.first", "unicode/utf8.acceptRanges", "internal/bytealg.MaxLen"], apart := false, laid := [("unicode/utf8.acceptRanges", laid_unicode_utf8_acceptRanges), ("path.ErrBadPattern", laid_path_ErrBadPattern), ("unicode/utf8.first", laid_unicode_utf8_first)] }
def FnStarAloneBytesSaid : Prop := fnStarAloneBytesRow.holds Tryd.pinned (OpenSpec.ofChange fnStarAloneBytesSpec)

/-- ITS FALSE NEIGHBOUR: 'it returns false'. Refute it at one input. -/
def fnStarAloneBytesWrong : ChangeSpec := { name := "fnStarAloneBytes", fn := fun _ => fun
  | [d] => { results := [.lit (.bool false)], args := [d] }
  | _ => none }
def FnStarAloneBytesWrongFalsely : Prop := fnStarAloneBytesRow.holds Tryd.pinned (OpenSpec.ofChange fnStarAloneBytesWrong)

/-- 'laws.FnExtEnd': WHATEVER THE INPUT: true; the input reads as it did. -/
def fnExtEndSpec : ChangeSpec := { name := "fnExtEnd", fn := fun _ => fun
  | [d] => { results := [.lit (.bool true)], args := [d] }
  | _ => none }
def fnExtEndRow : OpenClaim := { program := "ytgdkepjimhmdbaadoor", sum := "e869889261c3930f44545c57e4760f0c842c4ce9f5b49a24dfa564d517dad091", func := "loop.example/lib-pathpatterns/laws.FnExtEnd", spec := "fnExtEnd", inPlace := ["internal/bytealg.IndexByteString", "internal/reflectlite.TypeOf"], unfollowed := true, recurses := true, named := ["unicode/utf8.first", "unicode/utf8.acceptRanges", "path.ErrBadPattern"], apart := false, laid := [("unicode/utf8.acceptRanges", laid_unicode_utf8_acceptRanges), ("path.ErrBadPattern", laid_path_ErrBadPattern), ("unicode/utf8.first", laid_unicode_utf8_first)] }
def FnExtEndSaid : Prop := fnExtEndRow.holds Tryd.pinned (OpenSpec.ofChange fnExtEndSpec)

/-- ITS FALSE NEIGHBOUR: 'it returns false'. Refute it at one input. -/
def fnExtEndWrong : ChangeSpec := { name := "fnExtEnd", fn := fun _ => fun
  | [d] => { results := [.lit (.bool false)], args := [d] }
  | _ => none }
def FnExtEndWrongFalsely : Prop := fnExtEndRow.holds Tryd.pinned (OpenSpec.ofChange fnExtEndWrong)

/-- 'laws.FnExactClean': WHATEVER THE INPUT: true; the input reads as it did. -/
def fnExactCleanSpec : ChangeSpec := { name := "fnExactClean", fn := fun _ => fun
  | [d] => { results := [.lit (.bool true)], args := [d] }
  | _ => none }
def fnExactCleanRow : OpenClaim := { program := "ytgdkepjimhmdbaadoor", sum := "e869889261c3930f44545c57e4760f0c842c4ce9f5b49a24dfa564d517dad091", func := "loop.example/lib-pathpatterns/laws.FnExactClean", spec := "fnExactClean", inPlace := ["internal/bytealg.CountString", "internal/bytealg.IndexByteString", "internal/bytealg.IndexString", "internal/abi.NoEscape", "internal/bytealg.MakeNoZero"], named := ["unicode/utf8.first", "unicode/utf8.acceptRanges", "internal/bytealg.MaxLen"], apart := false, laid := [("unicode/utf8.acceptRanges", laid_unicode_utf8_acceptRanges), ("unicode/utf8.first", laid_unicode_utf8_first)] }
def FnExactCleanSaid : Prop := fnExactCleanRow.holds Tryd.pinned (OpenSpec.ofChange fnExactCleanSpec)

/-- ITS FALSE NEIGHBOUR: 'it returns false'. Refute it at one input. -/
def fnExactCleanWrong : ChangeSpec := { name := "fnExactClean", fn := fun _ => fun
  | [d] => { results := [.lit (.bool false)], args := [d] }
  | _ => none }
def FnExactCleanWrongFalsely : Prop := fnExactCleanRow.holds Tryd.pinned (OpenSpec.ofChange fnExactCleanWrong)

/- THE SECOND FORM. 'bulk': how many values and letters a reading holds, each counted each time it is reached (what is shared counts as often as it is met; a slice's spare places count too). A statement '..UptoSaid' is the law's where the arguments, and the package variables that the reading takes, are together of bulk at most 1048576: NARROWER than '..Said'. Prove '..Said' where nothing that the law and all that it calls make is longer than what came in: it says more and counts as full. Else prove '..UptoSaid'. A law counts once. -/
mutual
def uptoBulk {H : Type} : DataW H → Nat
  | .lit (.string bytes) => bytes.length + 1
  | .lit _ => 1
  | .nil => 1
  | .ptr d => uptoBulk d + 1
  | .slice elems spare => uptoBulkAll elems + uptoBulkAll spare + 1
  | .agg parts => uptoBulkAll parts + 1
  | .iface _ d => uptoBulk d + 1
  | .map entries => uptoBulkEntries entries + 1
  | .held _ => 1
def uptoBulkAll {H : Type} : List (DataW H) → Nat
  | [] => 0
  | d :: r => uptoBulk d + uptoBulkAll r
def uptoBulkEntries {H : Type} : List (Lit × DataW H) → Nat
  | [] => 0
  | x :: r => uptoBulkEntry x + uptoBulkEntries r
def uptoBulkEntry {H : Type} : Lit × DataW H → Nat
  | (.string bytes, d) => bytes.length + uptoBulk d + 1
  | (_, d) => uptoBulk d + 1
 end
def uptoSmall : (H : Type) → List (DataW H) → Bool := fun _ ds => decide (uptoBulkAll ds ≤ 1048576)
def OpenSpec.upto (s : _root_.Go.ChangeSpec) : _root_.Go.OpenSpec := { _root_.Go.OpenSpec.ofChange s with cond := some uptoSmall }

/-- 'laws.FnStarTwiceBytes', WHERE WHAT IT READS IS OF BULK AT MOST 1048576: true; the input reads as it did. -/
def fnStarTwiceBytesUptoRow : OpenClaim := { program := "ytgdkepjimhmdbaadoor", sum := "e869889261c3930f44545c57e4760f0c842c4ce9f5b49a24dfa564d517dad091", func := "loop.example/lib-pathpatterns/laws.FnStarTwiceBytes", spec := "fnStarTwiceBytes", inPlace := ["internal/bytealg.IndexByteString", "internal/reflectlite.TypeOf"], unfollowed := true, recurses := true, named := ["path.ErrBadPattern", "unicode/utf8.first", "unicode/utf8.acceptRanges"], apart := false, laid := [("unicode/utf8.acceptRanges", laid_unicode_utf8_acceptRanges), ("path.ErrBadPattern", laid_path_ErrBadPattern), ("unicode/utf8.first", laid_unicode_utf8_first)], narrowed := true }
def FnStarTwiceBytesUptoSaid : Prop := fnStarTwiceBytesUptoRow.holds Tryd.pinned (OpenSpec.upto fnStarTwiceBytesSpec)

/-- 'laws.FnWrittenBytes', WHERE WHAT IT READS IS OF BULK AT MOST 1048576: true; the input reads as it did. -/
def fnWrittenBytesUptoRow : OpenClaim := { program := "ytgdkepjimhmdbaadoor", sum := "e869889261c3930f44545c57e4760f0c842c4ce9f5b49a24dfa564d517dad091", func := "loop.example/lib-pathpatterns/laws.FnWrittenBytes", spec := "fnWrittenBytes", inPlace := ["internal/bytealg.IndexByteString", "internal/reflectlite.TypeOf"], unfollowed := true, recurses := true, named := ["path.ErrBadPattern", "unicode/utf8.first", "unicode/utf8.acceptRanges"], apart := false, laid := [("unicode/utf8.acceptRanges", laid_unicode_utf8_acceptRanges), ("path.ErrBadPattern", laid_path_ErrBadPattern), ("unicode/utf8.first", laid_unicode_utf8_first)], narrowed := true }
def FnWrittenBytesUptoSaid : Prop := fnWrittenBytesUptoRow.holds Tryd.pinned (OpenSpec.upto fnWrittenBytesSpec)

/-- 'laws.FnMatchBadName', WHERE WHAT IT READS IS OF BULK AT MOST 1048576: true; the input reads as it did. -/
def fnMatchBadNameUptoRow : OpenClaim := { program := "ytgdkepjimhmdbaadoor", sum := "e869889261c3930f44545c57e4760f0c842c4ce9f5b49a24dfa564d517dad091", func := "loop.example/lib-pathpatterns/laws.FnMatchBadName", spec := "fnMatchBadName", inPlace := ["internal/bytealg.IndexByteString", "internal/reflectlite.TypeOf"], unfollowed := true, recurses := true, named := ["path.ErrBadPattern", "unicode/utf8.first", "unicode/utf8.acceptRanges"], apart := false, laid := [("unicode/utf8.acceptRanges", laid_unicode_utf8_acceptRanges), ("path.ErrBadPattern", laid_path_ErrBadPattern), ("unicode/utf8.first", laid_unicode_utf8_first)], narrowed := true }
def FnMatchBadNameUptoSaid : Prop := fnMatchBadNameUptoRow.holds Tryd.pinned (OpenSpec.upto fnMatchBadNameSpec)

/-- 'laws.FnMatchBadTail', WHERE WHAT IT READS IS OF BULK AT MOST 1048576: true; the input reads as it did. -/
def fnMatchBadTailUptoRow : OpenClaim := { program := "ytgdkepjimhmdbaadoor", sum := "e869889261c3930f44545c57e4760f0c842c4ce9f5b49a24dfa564d517dad091", func := "loop.example/lib-pathpatterns/laws.FnMatchBadTail", spec := "fnMatchBadTail", inPlace := ["internal/bytealg.IndexByteString", "internal/reflectlite.TypeOf"], unfollowed := true, recurses := true, named := ["path.ErrBadPattern", "unicode/utf8.first", "unicode/utf8.acceptRanges"], apart := false, laid := [("unicode/utf8.acceptRanges", laid_unicode_utf8_acceptRanges), ("path.ErrBadPattern", laid_path_ErrBadPattern), ("unicode/utf8.first", laid_unicode_utf8_first)], narrowed := true }
def FnMatchBadTailUptoSaid : Prop := fnMatchBadTailUptoRow.holds Tryd.pinned (OpenSpec.upto fnMatchBadTailSpec)

/-- 'laws.FnQuoteHeadOther', WHERE WHAT IT READS IS OF BULK AT MOST 1048576: true; the input reads as it did. -/
def fnQuoteHeadOtherUptoRow : OpenClaim := { program := "ytgdkepjimhmdbaadoor", sum := "e869889261c3930f44545c57e4760f0c842c4ce9f5b49a24dfa564d517dad091", func := "loop.example/lib-pathpatterns/laws.FnQuoteHeadOther", spec := "fnQuoteHeadOther", inPlace := ["internal/bytealg.IndexByteString", "internal/reflectlite.TypeOf"], unfollowed := true, recurses := true, named := ["path.ErrBadPattern", "unicode/utf8.first", "unicode/utf8.acceptRanges"], apart := false, laid := [("unicode/utf8.acceptRanges", laid_unicode_utf8_acceptRanges), ("path.ErrBadPattern", laid_path_ErrBadPattern), ("unicode/utf8.first", laid_unicode_utf8_first)], narrowed := true }
def FnQuoteHeadOtherUptoSaid : Prop := fnQuoteHeadOtherUptoRow.holds Tryd.pinned (OpenSpec.upto fnQuoteHeadOtherSpec)

/-- 'laws.FnSplitMatch', WHERE WHAT IT READS IS OF BULK AT MOST 1048576: true; the input reads as it did. -/
def fnSplitMatchUptoRow : OpenClaim := { program := "ytgdkepjimhmdbaadoor", sum := "e869889261c3930f44545c57e4760f0c842c4ce9f5b49a24dfa564d517dad091", func := "loop.example/lib-pathpatterns/laws.FnSplitMatch", spec := "fnSplitMatch", inPlace := ["internal/bytealg.IndexByteString", "internal/reflectlite.TypeOf"], unfollowed := true, recurses := true, named := ["unicode/utf8.first", "unicode/utf8.acceptRanges", "path.ErrBadPattern"], apart := false, laid := [("unicode/utf8.acceptRanges", laid_unicode_utf8_acceptRanges), ("path.ErrBadPattern", laid_path_ErrBadPattern), ("unicode/utf8.first", laid_unicode_utf8_first)], narrowed := true }
def FnSplitMatchUptoSaid : Prop := fnSplitMatchUptoRow.holds Tryd.pinned (OpenSpec.upto fnSplitMatchSpec)

/-- 'laws.FnSplitWhole', WHERE WHAT IT READS IS OF BULK AT MOST 1048576: true; the input reads as it did. -/
def fnSplitWholeUptoRow : OpenClaim := { program := "ytgdkepjimhmdbaadoor", sum := "e869889261c3930f44545c57e4760f0c842c4ce9f5b49a24dfa564d517dad091", func := "loop.example/lib-pathpatterns/laws.FnSplitWhole", spec := "fnSplitWhole", inPlace := ["internal/bytealg.IndexByteString", "internal/reflectlite.TypeOf"], unfollowed := true, recurses := true, named := ["unicode/utf8.first", "unicode/utf8.acceptRanges", "path.ErrBadPattern"], apart := false, laid := [("unicode/utf8.acceptRanges", laid_unicode_utf8_acceptRanges), ("path.ErrBadPattern", laid_path_ErrBadPattern), ("unicode/utf8.first", laid_unicode_utf8_first)], narrowed := true }
def FnSplitWholeUptoSaid : Prop := fnSplitWholeUptoRow.holds Tryd.pinned (OpenSpec.upto fnSplitWholeSpec)

/-- 'laws.FnExtStar', WHERE WHAT IT READS IS OF BULK AT MOST 1048576: true; the input reads as it did. -/
def fnExtStarUptoRow : OpenClaim := { program := "ytgdkepjimhmdbaadoor", sum := "e869889261c3930f44545c57e4760f0c842c4ce9f5b49a24dfa564d517dad091", func := "loop.example/lib-pathpatterns/laws.FnExtStar", spec := "fnExtStar", inPlace := ["internal/bytealg.IndexByteString", "internal/reflectlite.TypeOf"], unfollowed := true, recurses := true, named := ["unicode/utf8.first", "unicode/utf8.acceptRanges", "path.ErrBadPattern"], apart := false, laid := [("unicode/utf8.acceptRanges", laid_unicode_utf8_acceptRanges), ("path.ErrBadPattern", laid_path_ErrBadPattern), ("unicode/utf8.first", laid_unicode_utf8_first)], narrowed := true }
def FnExtStarUptoSaid : Prop := fnExtStarUptoRow.holds Tryd.pinned (OpenSpec.upto fnExtStarSpec)

/-- 'laws.FnCleanMatch', WHERE WHAT IT READS IS OF BULK AT MOST 1048576: true; the input reads as it did. -/
def fnCleanMatchUptoRow : OpenClaim := { program := "ytgdkepjimhmdbaadoor", sum := "e869889261c3930f44545c57e4760f0c842c4ce9f5b49a24dfa564d517dad091", func := "loop.example/lib-pathpatterns/laws.FnCleanMatch", spec := "fnCleanMatch", inPlace := ["internal/bytealg.IndexByteString", "internal/reflectlite.TypeOf"], unfollowed := true, recurses := true, named := ["path.ErrBadPattern", "unicode/utf8.first", "unicode/utf8.acceptRanges"], apart := false, laid := [("unicode/utf8.acceptRanges", laid_unicode_utf8_acceptRanges), ("path.ErrBadPattern", laid_path_ErrBadPattern), ("unicode/utf8.first", laid_unicode_utf8_first)], narrowed := true }
def FnCleanMatchUptoSaid : Prop := fnCleanMatchUptoRow.holds Tryd.pinned (OpenSpec.upto fnCleanMatchSpec)

/-- 'laws.FnStarAloneBytes', WHERE WHAT IT READS IS OF BULK AT MOST 1048576: true; the input reads as it did. -/
def fnStarAloneBytesUptoRow : OpenClaim := { program := "ytgdkepjimhmdbaadoor", sum := "e869889261c3930f44545c57e4760f0c842c4ce9f5b49a24dfa564d517dad091", func := "loop.example/lib-pathpatterns/laws.FnStarAloneBytes", spec := "fnStarAloneBytes", inPlace := ["internal/bytealg.IndexByteString", "internal/reflectlite.TypeOf", "internal/bytealg.IndexString"], unfollowed := true, recurses := true, named := ["path.ErrBadPattern", "unicode/utf8.first", "unicode/utf8.acceptRanges", "internal/bytealg.MaxLen"], apart := false, laid := [("unicode/utf8.acceptRanges", laid_unicode_utf8_acceptRanges), ("path.ErrBadPattern", laid_path_ErrBadPattern), ("unicode/utf8.first", laid_unicode_utf8_first)], narrowed := true }
def FnStarAloneBytesUptoSaid : Prop := fnStarAloneBytesUptoRow.holds Tryd.pinned (OpenSpec.upto fnStarAloneBytesSpec)

/-- 'laws.FnExtEnd', WHERE WHAT IT READS IS OF BULK AT MOST 1048576: true; the input reads as it did. -/
def fnExtEndUptoRow : OpenClaim := { program := "ytgdkepjimhmdbaadoor", sum := "e869889261c3930f44545c57e4760f0c842c4ce9f5b49a24dfa564d517dad091", func := "loop.example/lib-pathpatterns/laws.FnExtEnd", spec := "fnExtEnd", inPlace := ["internal/bytealg.IndexByteString", "internal/reflectlite.TypeOf"], unfollowed := true, recurses := true, named := ["unicode/utf8.first", "unicode/utf8.acceptRanges", "path.ErrBadPattern"], apart := false, laid := [("unicode/utf8.acceptRanges", laid_unicode_utf8_acceptRanges), ("path.ErrBadPattern", laid_path_ErrBadPattern), ("unicode/utf8.first", laid_unicode_utf8_first)], narrowed := true }
def FnExtEndUptoSaid : Prop := fnExtEndUptoRow.holds Tryd.pinned (OpenSpec.upto fnExtEndSpec)

/-- 'laws.FnExactClean', WHERE WHAT IT READS IS OF BULK AT MOST 1048576: true; the input reads as it did. -/
def fnExactCleanUptoRow : OpenClaim := { program := "ytgdkepjimhmdbaadoor", sum := "e869889261c3930f44545c57e4760f0c842c4ce9f5b49a24dfa564d517dad091", func := "loop.example/lib-pathpatterns/laws.FnExactClean", spec := "fnExactClean", inPlace := ["internal/bytealg.CountString", "internal/bytealg.IndexByteString", "internal/bytealg.IndexString", "internal/abi.NoEscape", "internal/bytealg.MakeNoZero"], named := ["unicode/utf8.first", "unicode/utf8.acceptRanges", "internal/bytealg.MaxLen"], apart := false, laid := [("unicode/utf8.acceptRanges", laid_unicode_utf8_acceptRanges), ("unicode/utf8.first", laid_unicode_utf8_first)], narrowed := true }
def FnExactCleanUptoSaid : Prop := fnExactCleanUptoRow.holds Tryd.pinned (OpenSpec.upto fnExactCleanSpec)

end Rows
end Go.Proofs.YtgdkepjimhmdbaaDoor

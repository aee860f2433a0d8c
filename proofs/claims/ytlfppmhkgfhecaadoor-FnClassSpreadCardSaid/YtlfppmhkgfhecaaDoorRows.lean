/-
  NARROWER THAN 'FOR EVERY INPUT', by the rows' own cells (each row's printed sentence says how): FnClassTwice: laid · FnClassOrder: laid · FnClassSpread: laid · FnClassHead: laid · FnClassOne: laid · FnClassNot: laid · FnClassUnion: laid · FnAnyHead: laid · FnMatchSound: laid · FnAnyTail: laid · FnStarAround: laid · FnStarCount: laid.
  DERIVED. THE GIVEN ROWS OF THIS SEAT. 12 by the template 'for every input the law returns true; each argument reads behind the call as it read before'; 0 by the template 'total and deterministic' (their statements: YtlfppmhkgfhecaaDoorTotals.lean).
  GIVEN WITH THE SEED: the statements are not yours to turn. If you find one false, say at which input.
  Laid BY PROGRAM, IN A SANDBOX (cutbox-rows.mjs): the forced cells as the released guide's own fill.sh prints them over the translation 53b902fa60959411… (all of the seat's roots in one cut). By AI agents, Wed Nov 11 2026. No macro, syntax, notation, axiom, sorry.
-/
import Derived.Test.YtlfppmhkgfhecaaDoorChecked
import GoSem.PinnedTables
import GoSem.Claim
import GoSem.ClaimJoined
import GoSem.ClaimMapViews
import Derived.JoinedTies
import Derived.KernelRfl
namespace Go.Proofs.YtlfppmhkgfhecaaDoor
/- THE CELL 'sum', in the pinned program and in every row, IS THE sha256 OF THE DUMP (.gsa) THAT YtlfppmhkgfhecaaDoorProg.lean LOADS. Nothing in Lean hashes anything: it is a label: what it is worth is what the hold of that sum in a sandbox is worth. -/
noncomputable def Tryd.pinned : Pinned := { name := "ytlfppmhkgfhecaadoor", sum := "53b902fa60959411f524dbdef2c5ef36de0f971a2e4beaf5e1b382c143287cc6", checked := Tryd.checked }
namespace Rows
def none {H : Type} : Left H := { results := [], args := [] }

/- WHAT THE LISTED PACKAGE-LEVEL VARIABLES READ AS WHEN THE CALL BEGINS. Each datum BY PROGRAM (the guide's laid-datum.mjs) off the statement by which the dump's own 'gosem.cut.vars' lays the variable. In a bare row this is a premise. The card (YtlfppmhkgfhecaaDoorCards.lean) ties it to the program's text. -/
def laid_unicode_utf8_acceptRanges {H : Type} : DataW H := .agg [.agg [.lit (.int .u8 128), .lit (.int .u8 191)], .agg [.lit (.int .u8 160), .lit (.int .u8 191)], .agg [.lit (.int .u8 128), .lit (.int .u8 159)], .agg [.lit (.int .u8 144), .lit (.int .u8 191)], .agg [.lit (.int .u8 128), .lit (.int .u8 143)], .agg [.lit (.int .u8 0), .lit (.int .u8 0)], .agg [.lit (.int .u8 0), .lit (.int .u8 0)], .agg [.lit (.int .u8 0), .lit (.int .u8 0)], .agg [.lit (.int .u8 0), .lit (.int .u8 0)], .agg [.lit (.int .u8 0), .lit (.int .u8 0)], .agg [.lit (.int .u8 0), .lit (.int .u8 0)], .agg [.lit (.int .u8 0), .lit (.int .u8 0)], .agg [.lit (.int .u8 0), .lit (.int .u8 0)], .agg [.lit (.int .u8 0), .lit (.int .u8 0)], .agg [.lit (.int .u8 0), .lit (.int .u8 0)], .agg [.lit (.int .u8 0), .lit (.int .u8 0)]]
def laid_path_ErrBadPattern {H : Type} : DataW H := .iface "*errors.errorString" (.ptr (.agg [.lit (.string [115, 121, 110, 116, 97, 120, 32, 101, 114, 114, 111, 114, 32, 105, 110, 32, 112, 97, 116, 116, 101, 114, 110])]))
/-- One of Go's own tables, pinned by name: the form's constant. -/
def laid_unicode_utf8_first : DataW Unit := Go.Pinned.utf8First

/-- 'laws.FnClassTwice': WHATEVER THE INPUT: true; the input reads as it did. -/
def fnClassTwiceSpec : ChangeSpec := { name := "fnClassTwice", fn := fun _ => fun
  | [d] => { results := [.lit (.bool true)], args := [d] }
  | _ => none }
def fnClassTwiceRow : OpenClaim := { program := "ytlfppmhkgfhecaadoor", sum := "53b902fa60959411f524dbdef2c5ef36de0f971a2e4beaf5e1b382c143287cc6", func := "loop.example/lib-pathpatterns/laws.FnClassTwice", spec := "fnClassTwice", inPlace := ["internal/bytealg.IndexByteString", "internal/reflectlite.TypeOf"], unfollowed := true, recurses := true, named := ["path.ErrBadPattern", "unicode/utf8.first", "unicode/utf8.acceptRanges"], apart := false, laid := [("unicode/utf8.acceptRanges", laid_unicode_utf8_acceptRanges), ("path.ErrBadPattern", laid_path_ErrBadPattern), ("unicode/utf8.first", laid_unicode_utf8_first)] }
def FnClassTwiceSaid : Prop := fnClassTwiceRow.holds Tryd.pinned (OpenSpec.ofChange fnClassTwiceSpec)

/-- ITS FALSE NEIGHBOUR: 'it returns false'. Refute it at one input. -/
def fnClassTwiceWrong : ChangeSpec := { name := "fnClassTwice", fn := fun _ => fun
  | [d] => { results := [.lit (.bool false)], args := [d] }
  | _ => none }
def FnClassTwiceWrongFalsely : Prop := fnClassTwiceRow.holds Tryd.pinned (OpenSpec.ofChange fnClassTwiceWrong)

/-- 'laws.FnClassOrder': WHATEVER THE INPUT: true; the input reads as it did. -/
def fnClassOrderSpec : ChangeSpec := { name := "fnClassOrder", fn := fun _ => fun
  | [d] => { results := [.lit (.bool true)], args := [d] }
  | _ => none }
def fnClassOrderRow : OpenClaim := { program := "ytlfppmhkgfhecaadoor", sum := "53b902fa60959411f524dbdef2c5ef36de0f971a2e4beaf5e1b382c143287cc6", func := "loop.example/lib-pathpatterns/laws.FnClassOrder", spec := "fnClassOrder", inPlace := ["internal/bytealg.IndexByteString", "internal/reflectlite.TypeOf"], unfollowed := true, recurses := true, named := ["path.ErrBadPattern", "unicode/utf8.first", "unicode/utf8.acceptRanges"], apart := false, laid := [("unicode/utf8.acceptRanges", laid_unicode_utf8_acceptRanges), ("path.ErrBadPattern", laid_path_ErrBadPattern), ("unicode/utf8.first", laid_unicode_utf8_first)] }
def FnClassOrderSaid : Prop := fnClassOrderRow.holds Tryd.pinned (OpenSpec.ofChange fnClassOrderSpec)

/-- ITS FALSE NEIGHBOUR: 'it returns false'. Refute it at one input. -/
def fnClassOrderWrong : ChangeSpec := { name := "fnClassOrder", fn := fun _ => fun
  | [d] => { results := [.lit (.bool false)], args := [d] }
  | _ => none }
def FnClassOrderWrongFalsely : Prop := fnClassOrderRow.holds Tryd.pinned (OpenSpec.ofChange fnClassOrderWrong)

/-- 'laws.FnClassSpread': WHATEVER THE INPUT: true; the input reads as it did. -/
def fnClassSpreadSpec : ChangeSpec := { name := "fnClassSpread", fn := fun _ => fun
  | [d] => { results := [.lit (.bool true)], args := [d] }
  | _ => none }
def fnClassSpreadRow : OpenClaim := { program := "ytlfppmhkgfhecaadoor", sum := "53b902fa60959411f524dbdef2c5ef36de0f971a2e4beaf5e1b382c143287cc6", func := "loop.example/lib-pathpatterns/laws.FnClassSpread", spec := "fnClassSpread", inPlace := ["internal/bytealg.IndexByteString", "internal/reflectlite.TypeOf"], unfollowed := true, recurses := true, named := ["path.ErrBadPattern", "unicode/utf8.first", "unicode/utf8.acceptRanges"], apart := false, laid := [("unicode/utf8.acceptRanges", laid_unicode_utf8_acceptRanges), ("path.ErrBadPattern", laid_path_ErrBadPattern), ("unicode/utf8.first", laid_unicode_utf8_first)] }
def FnClassSpreadSaid : Prop := fnClassSpreadRow.holds Tryd.pinned (OpenSpec.ofChange fnClassSpreadSpec)

/-- ITS FALSE NEIGHBOUR: 'it returns false'. Refute it at one input. -/
def fnClassSpreadWrong : ChangeSpec := { name := "fnClassSpread", fn := fun _ => fun
  | [d] => { results := [.lit (.bool false)], args := [d] }
  | _ => none }
def FnClassSpreadWrongFalsely : Prop := fnClassSpreadRow.holds Tryd.pinned (OpenSpec.ofChange fnClassSpreadWrong)

/-- 'laws.FnClassHead': WHATEVER THE INPUT: true; the input reads as it did. -/
def fnClassHeadSpec : ChangeSpec := { name := "fnClassHead", fn := fun _ => fun
  | [d] => { results := [.lit (.bool true)], args := [d] }
  | _ => none }
def fnClassHeadRow : OpenClaim := { program := "ytlfppmhkgfhecaadoor", sum := "53b902fa60959411f524dbdef2c5ef36de0f971a2e4beaf5e1b382c143287cc6", func := "loop.example/lib-pathpatterns/laws.FnClassHead", spec := "fnClassHead", inPlace := ["internal/bytealg.IndexByteString", "internal/reflectlite.TypeOf"], unfollowed := true, recurses := true, named := ["path.ErrBadPattern", "unicode/utf8.first", "unicode/utf8.acceptRanges"], apart := false, laid := [("unicode/utf8.acceptRanges", laid_unicode_utf8_acceptRanges), ("path.ErrBadPattern", laid_path_ErrBadPattern), ("unicode/utf8.first", laid_unicode_utf8_first)] }
def FnClassHeadSaid : Prop := fnClassHeadRow.holds Tryd.pinned (OpenSpec.ofChange fnClassHeadSpec)

/-- ITS FALSE NEIGHBOUR: 'it returns false'. Refute it at one input. -/
def fnClassHeadWrong : ChangeSpec := { name := "fnClassHead", fn := fun _ => fun
  | [d] => { results := [.lit (.bool false)], args := [d] }
  | _ => none }
def FnClassHeadWrongFalsely : Prop := fnClassHeadRow.holds Tryd.pinned (OpenSpec.ofChange fnClassHeadWrong)

/-- 'laws.FnClassOne': WHATEVER THE INPUT: true; the input reads as it did. -/
def fnClassOneSpec : ChangeSpec := { name := "fnClassOne", fn := fun _ => fun
  | [d] => { results := [.lit (.bool true)], args := [d] }
  | _ => none }
def fnClassOneRow : OpenClaim := { program := "ytlfppmhkgfhecaadoor", sum := "53b902fa60959411f524dbdef2c5ef36de0f971a2e4beaf5e1b382c143287cc6", func := "loop.example/lib-pathpatterns/laws.FnClassOne", spec := "fnClassOne", inPlace := ["internal/bytealg.IndexByteString", "internal/reflectlite.TypeOf"], unfollowed := true, recurses := true, named := ["unicode/utf8.first", "unicode/utf8.acceptRanges", "path.ErrBadPattern"], apart := false, laid := [("unicode/utf8.acceptRanges", laid_unicode_utf8_acceptRanges), ("path.ErrBadPattern", laid_path_ErrBadPattern), ("unicode/utf8.first", laid_unicode_utf8_first)] }
def FnClassOneSaid : Prop := fnClassOneRow.holds Tryd.pinned (OpenSpec.ofChange fnClassOneSpec)

/-- ITS FALSE NEIGHBOUR: 'it returns false'. Refute it at one input. -/
def fnClassOneWrong : ChangeSpec := { name := "fnClassOne", fn := fun _ => fun
  | [d] => { results := [.lit (.bool false)], args := [d] }
  | _ => none }
def FnClassOneWrongFalsely : Prop := fnClassOneRow.holds Tryd.pinned (OpenSpec.ofChange fnClassOneWrong)

/-- 'laws.FnClassNot': WHATEVER THE INPUT: true; the input reads as it did. -/
def fnClassNotSpec : ChangeSpec := { name := "fnClassNot", fn := fun _ => fun
  | [d] => { results := [.lit (.bool true)], args := [d] }
  | _ => none }
def fnClassNotRow : OpenClaim := { program := "ytlfppmhkgfhecaadoor", sum := "53b902fa60959411f524dbdef2c5ef36de0f971a2e4beaf5e1b382c143287cc6", func := "loop.example/lib-pathpatterns/laws.FnClassNot", spec := "fnClassNot", inPlace := ["internal/bytealg.IndexByteString", "internal/reflectlite.TypeOf"], unfollowed := true, recurses := true, named := ["unicode/utf8.first", "unicode/utf8.acceptRanges", "path.ErrBadPattern"], apart := false, laid := [("unicode/utf8.acceptRanges", laid_unicode_utf8_acceptRanges), ("path.ErrBadPattern", laid_path_ErrBadPattern), ("unicode/utf8.first", laid_unicode_utf8_first)] }
def FnClassNotSaid : Prop := fnClassNotRow.holds Tryd.pinned (OpenSpec.ofChange fnClassNotSpec)

/-- ITS FALSE NEIGHBOUR: 'it returns false'. Refute it at one input. -/
def fnClassNotWrong : ChangeSpec := { name := "fnClassNot", fn := fun _ => fun
  | [d] => { results := [.lit (.bool false)], args := [d] }
  | _ => none }
def FnClassNotWrongFalsely : Prop := fnClassNotRow.holds Tryd.pinned (OpenSpec.ofChange fnClassNotWrong)

/-- 'laws.FnClassUnion': WHATEVER THE INPUT: true; the input reads as it did. -/
def fnClassUnionSpec : ChangeSpec := { name := "fnClassUnion", fn := fun _ => fun
  | [d] => { results := [.lit (.bool true)], args := [d] }
  | _ => none }
def fnClassUnionRow : OpenClaim := { program := "ytlfppmhkgfhecaadoor", sum := "53b902fa60959411f524dbdef2c5ef36de0f971a2e4beaf5e1b382c143287cc6", func := "loop.example/lib-pathpatterns/laws.FnClassUnion", spec := "fnClassUnion", inPlace := ["internal/bytealg.IndexByteString", "internal/reflectlite.TypeOf"], unfollowed := true, recurses := true, named := ["path.ErrBadPattern", "unicode/utf8.first", "unicode/utf8.acceptRanges"], apart := false, laid := [("unicode/utf8.acceptRanges", laid_unicode_utf8_acceptRanges), ("path.ErrBadPattern", laid_path_ErrBadPattern), ("unicode/utf8.first", laid_unicode_utf8_first)] }
def FnClassUnionSaid : Prop := fnClassUnionRow.holds Tryd.pinned (OpenSpec.ofChange fnClassUnionSpec)

/-- ITS FALSE NEIGHBOUR: 'it returns false'. Refute it at one input. -/
def fnClassUnionWrong : ChangeSpec := { name := "fnClassUnion", fn := fun _ => fun
  | [d] => { results := [.lit (.bool false)], args := [d] }
  | _ => none }
def FnClassUnionWrongFalsely : Prop := fnClassUnionRow.holds Tryd.pinned (OpenSpec.ofChange fnClassUnionWrong)

/-- 'laws.FnAnyHead': WHATEVER THE INPUT: true; the input reads as it did. -/
def fnAnyHeadSpec : ChangeSpec := { name := "fnAnyHead", fn := fun _ => fun
  | [d] => { results := [.lit (.bool true)], args := [d] }
  | _ => none }
def fnAnyHeadRow : OpenClaim := { program := "ytlfppmhkgfhecaadoor", sum := "53b902fa60959411f524dbdef2c5ef36de0f971a2e4beaf5e1b382c143287cc6", func := "loop.example/lib-pathpatterns/laws.FnAnyHead", spec := "fnAnyHead", inPlace := ["internal/bytealg.IndexByteString", "internal/reflectlite.TypeOf"], unfollowed := true, recurses := true, named := ["path.ErrBadPattern", "unicode/utf8.first", "unicode/utf8.acceptRanges"], apart := false, laid := [("unicode/utf8.acceptRanges", laid_unicode_utf8_acceptRanges), ("path.ErrBadPattern", laid_path_ErrBadPattern), ("unicode/utf8.first", laid_unicode_utf8_first)] }
def FnAnyHeadSaid : Prop := fnAnyHeadRow.holds Tryd.pinned (OpenSpec.ofChange fnAnyHeadSpec)

/-- ITS FALSE NEIGHBOUR: 'it returns false'. Refute it at one input. -/
def fnAnyHeadWrong : ChangeSpec := { name := "fnAnyHead", fn := fun _ => fun
  | [d] => { results := [.lit (.bool false)], args := [d] }
  | _ => none }
def FnAnyHeadWrongFalsely : Prop := fnAnyHeadRow.holds Tryd.pinned (OpenSpec.ofChange fnAnyHeadWrong)

/-- 'laws.FnMatchSound': WHATEVER THE INPUT: true; the input reads as it did. -/
def fnMatchSoundSpec : ChangeSpec := { name := "fnMatchSound", fn := fun _ => fun
  | [d] => { results := [.lit (.bool true)], args := [d] }
  | _ => none }
def fnMatchSoundRow : OpenClaim := { program := "ytlfppmhkgfhecaadoor", sum := "53b902fa60959411f524dbdef2c5ef36de0f971a2e4beaf5e1b382c143287cc6", func := "loop.example/lib-pathpatterns/laws.FnMatchSound", spec := "fnMatchSound", inPlace := ["internal/bytealg.IndexByteString", "internal/reflectlite.TypeOf"], unfollowed := true, recurses := true, named := ["path.ErrBadPattern", "unicode/utf8.first", "unicode/utf8.acceptRanges"], apart := false, laid := [("unicode/utf8.acceptRanges", laid_unicode_utf8_acceptRanges), ("path.ErrBadPattern", laid_path_ErrBadPattern), ("unicode/utf8.first", laid_unicode_utf8_first)] }
def FnMatchSoundSaid : Prop := fnMatchSoundRow.holds Tryd.pinned (OpenSpec.ofChange fnMatchSoundSpec)

/-- ITS FALSE NEIGHBOUR: 'it returns false'. Refute it at one input. -/
def fnMatchSoundWrong : ChangeSpec := { name := "fnMatchSound", fn := fun _ => fun
  | [d] => { results := [.lit (.bool false)], args := [d] }
  | _ => none }
def FnMatchSoundWrongFalsely : Prop := fnMatchSoundRow.holds Tryd.pinned (OpenSpec.ofChange fnMatchSoundWrong)

/-- 'laws.FnAnyTail': WHATEVER THE INPUT: true; the input reads as it did. -/
def fnAnyTailSpec : ChangeSpec := { name := "fnAnyTail", fn := fun _ => fun
  | [d] => { results := [.lit (.bool true)], args := [d] }
  | _ => none }
def fnAnyTailRow : OpenClaim := { program := "ytlfppmhkgfhecaadoor", sum := "53b902fa60959411f524dbdef2c5ef36de0f971a2e4beaf5e1b382c143287cc6", func := "loop.example/lib-pathpatterns/laws.FnAnyTail", spec := "fnAnyTail", inPlace := ["internal/bytealg.IndexByteString", "internal/reflectlite.TypeOf", "internal/bytealg.IndexString"], unfollowed := true, recurses := true, named := ["path.ErrBadPattern", "unicode/utf8.first", "unicode/utf8.acceptRanges", "internal/bytealg.MaxLen"], apart := false, laid := [("unicode/utf8.acceptRanges", laid_unicode_utf8_acceptRanges), ("path.ErrBadPattern", laid_path_ErrBadPattern), ("unicode/utf8.first", laid_unicode_utf8_first)] }
def FnAnyTailSaid : Prop := fnAnyTailRow.holds Tryd.pinned (OpenSpec.ofChange fnAnyTailSpec)

/-- ITS FALSE NEIGHBOUR: 'it returns false'. Refute it at one input. -/
def fnAnyTailWrong : ChangeSpec := { name := "fnAnyTail", fn := fun _ => fun
  | [d] => { results := [.lit (.bool false)], args := [d] }
  | _ => none }
def FnAnyTailWrongFalsely : Prop := fnAnyTailRow.holds Tryd.pinned (OpenSpec.ofChange fnAnyTailWrong)

/-- 'laws.FnStarAround': WHATEVER THE INPUT: true; the input reads as it did. -/
def fnStarAroundSpec : ChangeSpec := { name := "fnStarAround", fn := fun _ => fun
  | [d] => { results := [.lit (.bool true)], args := [d] }
  | _ => none }
def fnStarAroundRow : OpenClaim := { program := "ytlfppmhkgfhecaadoor", sum := "53b902fa60959411f524dbdef2c5ef36de0f971a2e4beaf5e1b382c143287cc6", func := "loop.example/lib-pathpatterns/laws.FnStarAround", spec := "fnStarAround", inPlace := ["internal/bytealg.IndexByteString", "internal/bytealg.IndexString", "internal/reflectlite.TypeOf"], unfollowed := true, recurses := true, named := ["unicode/utf8.first", "unicode/utf8.acceptRanges", "internal/bytealg.MaxLen", "path.ErrBadPattern"], apart := false, laid := [("unicode/utf8.acceptRanges", laid_unicode_utf8_acceptRanges), ("path.ErrBadPattern", laid_path_ErrBadPattern), ("unicode/utf8.first", laid_unicode_utf8_first)] }
def FnStarAroundSaid : Prop := fnStarAroundRow.holds Tryd.pinned (OpenSpec.ofChange fnStarAroundSpec)

/-- ITS FALSE NEIGHBOUR: 'it returns false'. Refute it at one input. -/
def fnStarAroundWrong : ChangeSpec := { name := "fnStarAround", fn := fun _ => fun
  | [d] => { results := [.lit (.bool false)], args := [d] }
  | _ => none }
def FnStarAroundWrongFalsely : Prop := fnStarAroundRow.holds Tryd.pinned (OpenSpec.ofChange fnStarAroundWrong)

/-- 'laws.FnStarCount': WHATEVER THE INPUT: true; the input reads as it did. -/
def fnStarCountSpec : ChangeSpec := { name := "fnStarCount", fn := fun _ => fun
  | [d] => { results := [.lit (.bool true)], args := [d] }
  | _ => none }
def fnStarCountRow : OpenClaim := { program := "ytlfppmhkgfhecaadoor", sum := "53b902fa60959411f524dbdef2c5ef36de0f971a2e4beaf5e1b382c143287cc6", func := "loop.example/lib-pathpatterns/laws.FnStarCount", spec := "fnStarCount", inPlace := ["internal/bytealg.IndexByteString", "internal/reflectlite.TypeOf", "internal/bytealg.CountString", "internal/bytealg.IndexString"], unfollowed := true, recurses := true, named := ["unicode/utf8.first", "unicode/utf8.acceptRanges", "path.ErrBadPattern", "internal/bytealg.MaxLen"], apart := false, laid := [("unicode/utf8.acceptRanges", laid_unicode_utf8_acceptRanges), ("path.ErrBadPattern", laid_path_ErrBadPattern), ("unicode/utf8.first", laid_unicode_utf8_first)] }
def FnStarCountSaid : Prop := fnStarCountRow.holds Tryd.pinned (OpenSpec.ofChange fnStarCountSpec)

/-- ITS FALSE NEIGHBOUR: 'it returns false'. Refute it at one input. -/
def fnStarCountWrong : ChangeSpec := { name := "fnStarCount", fn := fun _ => fun
  | [d] => { results := [.lit (.bool false)], args := [d] }
  | _ => none }
def FnStarCountWrongFalsely : Prop := fnStarCountRow.holds Tryd.pinned (OpenSpec.ofChange fnStarCountWrong)

/- THE SECOND FORM. 'bulk': how many values and letters a reading holds, each counted each time it is reached (what is shared counts as often as it is met; a slice's spare places count too). A statement '..UptoSaid' is the law's where the arguments, and the package variables that the reading takes, are together of bulk at most 1048576: NARROWER than '..Said'. Prove '..Said' where nothing that the law and all that it calls make is longer than what came in: it says more and counts as full. Else prove '..UptoSaid'. A law counts once. -/
mutual
def uptoBulk {H : Type} : DataW H → Nat
  | .lit (.string bytes) => bytes.length + 1
  | .lit _ => 1
  | .nil => 1
  | .ptr d => uptoBulk d + 1
  | .slice elems spare => uptoBulkAll elems + uptoBulkAll spare + 1
  | .agg parts => uptoBulkAll parts + 1
  | .iface _ d => uptoBulk d + 1
  | .map entries => uptoBulkEntries entries + 1
  | .held _ => 1
def uptoBulkAll {H : Type} : List (DataW H) → Nat
  | [] => 0
  | d :: r => uptoBulk d + uptoBulkAll r
def uptoBulkEntries {H : Type} : List (Lit × DataW H) → Nat
  | [] => 0
  | x :: r => uptoBulkEntry x + uptoBulkEntries r
def uptoBulkEntry {H : Type} : Lit × DataW H → Nat
  | (.string bytes, d) => bytes.length + uptoBulk d + 1
  | (_, d) => uptoBulk d + 1
 end
def uptoSmall : (H : Type) → List (DataW H) → Bool := fun _ ds => decide (uptoBulkAll ds ≤ 1048576)
def OpenSpec.upto (s : _root_.Go.ChangeSpec) : _root_.Go.OpenSpec := { _root_.Go.OpenSpec.ofChange s with cond := some uptoSmall }

/-- 'laws.FnClassTwice', WHERE WHAT IT READS IS OF BULK AT MOST 1048576: true; the input reads as it did. -/
def fnClassTwiceUptoRow : OpenClaim := { program := "ytlfppmhkgfhecaadoor", sum := "53b902fa60959411f524dbdef2c5ef36de0f971a2e4beaf5e1b382c143287cc6", func := "loop.example/lib-pathpatterns/laws.FnClassTwice", spec := "fnClassTwice", inPlace := ["internal/bytealg.IndexByteString", "internal/reflectlite.TypeOf"], unfollowed := true, recurses := true, named := ["path.ErrBadPattern", "unicode/utf8.first", "unicode/utf8.acceptRanges"], apart := false, laid := [("unicode/utf8.acceptRanges", laid_unicode_utf8_acceptRanges), ("path.ErrBadPattern", laid_path_ErrBadPattern), ("unicode/utf8.first", laid_unicode_utf8_first)], narrowed := true }
def FnClassTwiceUptoSaid : Prop := fnClassTwiceUptoRow.holds Tryd.pinned (OpenSpec.upto fnClassTwiceSpec)

/-- 'laws.FnClassOrder', WHERE WHAT IT READS IS OF BULK AT MOST 1048576: true; the input reads as it did. -/
def fnClassOrderUptoRow : OpenClaim := { program := "ytlfppmhkgfhecaadoor", sum := "53b902fa60959411f524dbdef2c5ef36de0f971a2e4beaf5e1b382c143287cc6", func := "loop.example/lib-pathpatterns/laws.FnClassOrder", spec := "fnClassOrder", inPlace := ["internal/bytealg.IndexByteString", "internal/reflectlite.TypeOf"], unfollowed := true, recurses := true, named := ["path.ErrBadPattern", "unicode/utf8.first", "unicode/utf8.acceptRanges"], apart := false, laid := [("unicode/utf8.acceptRanges", laid_unicode_utf8_acceptRanges), ("path.ErrBadPattern", laid_path_ErrBadPattern), ("unicode/utf8.first", laid_unicode_utf8_first)], narrowed := true }
def FnClassOrderUptoSaid : Prop := fnClassOrderUptoRow.holds Tryd.pinned (OpenSpec.upto fnClassOrderSpec)

/-- 'laws.FnClassSpread', WHERE WHAT IT READS IS OF BULK AT MOST 1048576: true; the input reads as it did. -/
def fnClassSpreadUptoRow : OpenClaim := { program := "ytlfppmhkgfhecaadoor", sum := "53b902fa60959411f524dbdef2c5ef36de0f971a2e4beaf5e1b382c143287cc6", func := "loop.example/lib-pathpatterns/laws.FnClassSpread", spec := "fnClassSpread", inPlace := ["internal/bytealg.IndexByteString", "internal/reflectlite.TypeOf"], unfollowed := true, recurses := true, named := ["path.ErrBadPattern", "unicode/utf8.first", "unicode/utf8.acceptRanges"], apart := false, laid := [("unicode/utf8.acceptRanges", laid_unicode_utf8_acceptRanges), ("path.ErrBadPattern", laid_path_ErrBadPattern), ("unicode/utf8.first", laid_unicode_utf8_first)], narrowed := true }
def FnClassSpreadUptoSaid : Prop := fnClassSpreadUptoRow.holds Tryd.pinned (OpenSpec.upto fnClassSpreadSpec)

/-- 'laws.FnClassHead', WHERE WHAT IT READS IS OF BULK AT MOST 1048576: true; the input reads as it did. -/
def fnClassHeadUptoRow : OpenClaim := { program := "ytlfppmhkgfhecaadoor", sum := "53b902fa60959411f524dbdef2c5ef36de0f971a2e4beaf5e1b382c143287cc6", func := "loop.example/lib-pathpatterns/laws.FnClassHead", spec := "fnClassHead", inPlace := ["internal/bytealg.IndexByteString", "internal/reflectlite.TypeOf"], unfollowed := true, recurses := true, named := ["path.ErrBadPattern", "unicode/utf8.first", "unicode/utf8.acceptRanges"], apart := false, laid := [("unicode/utf8.acceptRanges", laid_unicode_utf8_acceptRanges), ("path.ErrBadPattern", laid_path_ErrBadPattern), ("unicode/utf8.first", laid_unicode_utf8_first)], narrowed := true }
def FnClassHeadUptoSaid : Prop := fnClassHeadUptoRow.holds Tryd.pinned (OpenSpec.upto fnClassHeadSpec)

/-- 'laws.FnClassOne', WHERE WHAT IT READS IS OF BULK AT MOST 1048576: true; the input reads as it did. -/
def fnClassOneUptoRow : OpenClaim := { program := "ytlfppmhkgfhecaadoor", sum := "53b902fa60959411f524dbdef2c5ef36de0f971a2e4beaf5e1b382c143287cc6", func := "loop.example/lib-pathpatterns/laws.FnClassOne", spec := "fnClassOne", inPlace := ["internal/bytealg.IndexByteString", "internal/reflectlite.TypeOf"], unfollowed := true, recurses := true, named := ["unicode/utf8.first", "unicode/utf8.acceptRanges", "path.ErrBadPattern"], apart := false, laid := [("unicode/utf8.acceptRanges", laid_unicode_utf8_acceptRanges), ("path.ErrBadPattern", laid_path_ErrBadPattern), ("unicode/utf8.first", laid_unicode_utf8_first)], narrowed := true }
def FnClassOneUptoSaid : Prop := fnClassOneUptoRow.holds Tryd.pinned (OpenSpec.upto fnClassOneSpec)

/-- 'laws.FnClassNot', WHERE WHAT IT READS IS OF BULK AT MOST 1048576: true; the input reads as it did. -/
def fnClassNotUptoRow : OpenClaim := { program := "ytlfppmhkgfhecaadoor", sum := "53b902fa60959411f524dbdef2c5ef36de0f971a2e4beaf5e1b382c143287cc6", func := "loop.example/lib-pathpatterns/laws.FnClassNot", spec := "fnClassNot", inPlace := ["internal/bytealg.IndexByteString", "internal/reflectlite.TypeOf"], unfollowed := true, recurses := true, named := ["unicode/utf8.first", "unicode/utf8.acceptRanges", "path.ErrBadPattern"], apart := false, laid := [("unicode/utf8.acceptRanges", laid_unicode_utf8_acceptRanges), ("path.ErrBadPattern", laid_path_ErrBadPattern), ("unicode/utf8.first", laid_unicode_utf8_first)], narrowed := true }
def FnClassNotUptoSaid : Prop := fnClassNotUptoRow.holds Tryd.pinned (OpenSpec.upto fnClassNotSpec)

/-- 'laws.FnClassUnion', WHERE WHAT IT READS IS OF BULK AT MOST 1048576: true; the input reads as it did. -/
def fnClassUnionUptoRow : OpenClaim := { program := "ytlfppmhkgfhecaadoor", sum := "53b902fa60959411f524dbdef2c5ef36de0f971a2e4beaf5e1b382c143287cc6", func := "loop.example/lib-pathpatterns/laws.FnClassUnion", spec := "fnClassUnion", inPlace := ["internal/bytealg.IndexByteString", "internal/reflectlite.TypeOf"], unfollowed := true, recurses := true, named := ["path.ErrBadPattern", "unicode/utf8.first", "unicode/utf8.acceptRanges"], apart := false, laid := [("unicode/utf8.acceptRanges", laid_unicode_utf8_acceptRanges), ("path.ErrBadPattern", laid_path_ErrBadPattern), ("unicode/utf8.first", laid_unicode_utf8_first)], narrowed := true }
def FnClassUnionUptoSaid : Prop := fnClassUnionUptoRow.holds Tryd.pinned (OpenSpec.upto fnClassUnionSpec)

/-- 'laws.FnAnyHead', WHERE WHAT IT READS IS OF BULK AT MOST 1048576: true; the input reads as it did. -/
def fnAnyHeadUptoRow : OpenClaim := { program := "ytlfppmhkgfhecaadoor", sum := "53b902fa60959411f524dbdef2c5ef36de0f971a2e4beaf5e1b382c143287cc6", func := "loop.example/lib-pathpatterns/laws.FnAnyHead", spec := "fnAnyHead", inPlace := ["internal/bytealg.IndexByteString", "internal/reflectlite.TypeOf"], unfollowed := true, recurses := true, named := ["path.ErrBadPattern", "unicode/utf8.first", "unicode/utf8.acceptRanges"], apart := false, laid := [("unicode/utf8.acceptRanges", laid_unicode_utf8_acceptRanges), ("path.ErrBadPattern", laid_path_ErrBadPattern), ("unicode/utf8.first", laid_unicode_utf8_first)], narrowed := true }
def FnAnyHeadUptoSaid : Prop := fnAnyHeadUptoRow.holds Tryd.pinned (OpenSpec.upto fnAnyHeadSpec)

/-- 'laws.FnMatchSound', WHERE WHAT IT READS IS OF BULK AT MOST 1048576: true; the input reads as it did. -/
def fnMatchSoundUptoRow : OpenClaim := { program := "ytlfppmhkgfhecaadoor", sum := "53b902fa60959411f524dbdef2c5ef36de0f971a2e4beaf5e1b382c143287cc6", func := "loop.example/lib-pathpatterns/laws.FnMatchSound", spec := "fnMatchSound", inPlace := ["internal/bytealg.IndexByteString", "internal/reflectlite.TypeOf"], unfollowed := true, recurses := true, named := ["path.ErrBadPattern", "unicode/utf8.first", "unicode/utf8.acceptRanges"], apart := false, laid := [("unicode/utf8.acceptRanges", laid_unicode_utf8_acceptRanges), ("path.ErrBadPattern", laid_path_ErrBadPattern), ("unicode/utf8.first", laid_unicode_utf8_first)], narrowed := true }
def FnMatchSoundUptoSaid : Prop := fnMatchSoundUptoRow.holds Tryd.pinned (OpenSpec.upto fnMatchSoundSpec)

/-- 'laws.FnAnyTail', WHERE WHAT IT READS IS OF BULK AT MOST 1048576: true; the input reads as it did. -/
def fnAnyTailUptoRow : OpenClaim := { program := "ytlfppmhkgfhecaadoor", sum := "53b902fa60959411f524dbdef2c5ef36de0f971a2e4beaf5e1b382c143287cc6", func := "loop.example/lib-pathpatterns/laws.FnAnyTail", spec := "fnAnyTail", inPlace := ["internal/bytealg.IndexByteString", "internal/reflectlite.TypeOf", "internal/bytealg.IndexString"], unfollowed := true, recurses := true, named := ["path.ErrBadPattern", "unicode/utf8.first", "unicode/utf8.acceptRanges", "internal/bytealg.MaxLen"], apart := false, laid := [("unicode/utf8.acceptRanges", laid_unicode_utf8_acceptRanges), ("path.ErrBadPattern", laid_path_ErrBadPattern), ("unicode/utf8.first", laid_unicode_utf8_first)], narrowed := true }
def FnAnyTailUptoSaid : Prop := fnAnyTailUptoRow.holds Tryd.pinned (OpenSpec.upto fnAnyTailSpec)

/-- 'laws.FnStarAround', WHERE WHAT IT READS IS OF BULK AT MOST 1048576: true; the input reads as it did. -/
def fnStarAroundUptoRow : OpenClaim := { program := "ytlfppmhkgfhecaadoor", sum := "53b902fa60959411f524dbdef2c5ef36de0f971a2e4beaf5e1b382c143287cc6", func := "loop.example/lib-pathpatterns/laws.FnStarAround", spec := "fnStarAround", inPlace := ["internal/bytealg.IndexByteString", "internal/bytealg.IndexString", "internal/reflectlite.TypeOf"], unfollowed := true, recurses := true, named := ["unicode/utf8.first", "unicode/utf8.acceptRanges", "internal/bytealg.MaxLen", "path.ErrBadPattern"], apart := false, laid := [("unicode/utf8.acceptRanges", laid_unicode_utf8_acceptRanges), ("path.ErrBadPattern", laid_path_ErrBadPattern), ("unicode/utf8.first", laid_unicode_utf8_first)], narrowed := true }
def FnStarAroundUptoSaid : Prop := fnStarAroundUptoRow.holds Tryd.pinned (OpenSpec.upto fnStarAroundSpec)

/-- 'laws.FnStarCount', WHERE WHAT IT READS IS OF BULK AT MOST 1048576: true; the input reads as it did. -/
def fnStarCountUptoRow : OpenClaim := { program := "ytlfppmhkgfhecaadoor", sum := "53b902fa60959411f524dbdef2c5ef36de0f971a2e4beaf5e1b382c143287cc6", func := "loop.example/lib-pathpatterns/laws.FnStarCount", spec := "fnStarCount", inPlace := ["internal/bytealg.IndexByteString", "internal/reflectlite.TypeOf", "internal/bytealg.CountString", "internal/bytealg.IndexString"], unfollowed := true, recurses := true, named := ["unicode/utf8.first", "unicode/utf8.acceptRanges", "path.ErrBadPattern", "internal/bytealg.MaxLen"], apart := false, laid := [("unicode/utf8.acceptRanges", laid_unicode_utf8_acceptRanges), ("path.ErrBadPattern", laid_path_ErrBadPattern), ("unicode/utf8.first", laid_unicode_utf8_first)], narrowed := true }
def FnStarCountUptoSaid : Prop := fnStarCountUptoRow.holds Tryd.pinned (OpenSpec.upto fnStarCountSpec)

end Rows
end Go.Proofs.YtlfppmhkgfhecaaDoor

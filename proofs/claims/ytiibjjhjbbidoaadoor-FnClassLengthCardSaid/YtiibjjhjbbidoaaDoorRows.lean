/-
  NARROWER THAN 'FOR EVERY INPUT', by the rows' own cells (each row's printed sentence says how): FnMatchBadOpen: laid · FnAnyHead: laid · FnClassEmptyRange: laid · FnClassHead: laid · FnClassLength: laid · FnClassNot: laid · FnClassOne: laid · FnClassOrder: laid · FnClassSlash: laid · FnJoinMatch: laid · FnClassSpread: laid · FnClassTwice: laid.
  DERIVED. THE GIVEN ROWS OF THIS SEAT. 12 by the template 'for every input the law returns true; each argument reads behind the call as it read before'; 0 by the template 'total and deterministic' (their statements: YtiibjjhjbbidoaaDoorTotals.lean).
  GIVEN WITH THE SEED: the statements are not yours to turn. If you find one false, say at which input.
  Laid BY PROGRAM, IN A SANDBOX (cutbox-rows.mjs): the forced cells as the released guide's own fill.sh prints them over the translation c9188324db1e17ae… (all of the seat's roots in one cut). By AI agents, Wed Nov 11 2026. No macro, syntax, notation, axiom, sorry.
-/
import Derived.Test.YtiibjjhjbbidoaaDoorChecked
import GoSem.PinnedTables
import GoSem.Claim
import GoSem.ClaimJoined
import GoSem.ClaimMapViews
import Derived.JoinedTies
import Derived.KernelRfl
namespace Go.Proofs.YtiibjjhjbbidoaaDoor
/- THE CELL 'sum', in the pinned program and in every row, IS THE sha256 OF THE DUMP (.gsa) THAT YtiibjjhjbbidoaaDoorProg.lean LOADS. Nothing in Lean hashes anything: it is a label: what it is worth is what the hold of that sum in a sandbox is worth. -/
noncomputable def Tryd.pinned : Pinned := { name := "ytiibjjhjbbidoaadoor", sum := "c9188324db1e17aebc042f3bc843e1aef68414caeb8214cf23317b6b9bced7b9", checked := Tryd.checked }
namespace Rows
def none {H : Type} : Left H := { results := [], args := [] }

/- WHAT THE LISTED PACKAGE-LEVEL VARIABLES READ AS WHEN THE CALL BEGINS. Each datum BY PROGRAM (the guide's laid-datum.mjs) off the statement by which the dump's own 'gosem.cut.vars' lays the variable. In a bare row this is a premise. The card (YtiibjjhjbbidoaaDoorCards.lean) ties it to the program's text. -/
def laid_unicode_utf8_acceptRanges {H : Type} : DataW H := .agg [.agg [.lit (.int .u8 128), .lit (.int .u8 191)], .agg [.lit (.int .u8 160), .lit (.int .u8 191)], .agg [.lit (.int .u8 128), .lit (.int .u8 159)], .agg [.lit (.int .u8 144), .lit (.int .u8 191)], .agg [.lit (.int .u8 128), .lit (.int .u8 143)], .agg [.lit (.int .u8 0), .lit (.int .u8 0)], .agg [.lit (.int .u8 0), .lit (.int .u8 0)], .agg [.lit (.int .u8 0), .lit (.int .u8 0)], .agg [.lit (.int .u8 0), .lit (.int .u8 0)], .agg [.lit (.int .u8 0), .lit (.int .u8 0)], .agg [.lit (.int .u8 0), .lit (.int .u8 0)], .agg [.lit (.int .u8 0), .lit (.int .u8 0)], .agg [.lit (.int .u8 0), .lit (.int .u8 0)], .agg [.lit (.int .u8 0), .lit (.int .u8 0)], .agg [.lit (.int .u8 0), .lit (.int .u8 0)], .agg [.lit (.int .u8 0), .lit (.int .u8 0)]]
def laid_path_ErrBadPattern {H : Type} : DataW H := .iface "*errors.errorString" (.ptr (.agg [.lit (.string [115, 121, 110, 116, 97, 120, 32, 101, 114, 114, 111, 114, 32, 105, 110, 32, 112, 97, 116, 116, 101, 114, 110])]))
/-- One of Go's own tables, pinned by name: the form's constant. -/
def laid_unicode_utf8_first : DataW Unit := Go.Pinned.utf8First

/-- 'laws.FnMatchBadOpen': WHATEVER THE INPUT: true; the input reads as it did. -/
def fnMatchBadOpenSpec : ChangeSpec := { name := "fnMatchBadOpen", fn := fun _ => fun
  | [d] => { results := [.lit (.bool true)], args := [d] }
  | _ => none }
def fnMatchBadOpenRow : OpenClaim := { program := "ytiibjjhjbbidoaadoor", sum := "c9188324db1e17aebc042f3bc843e1aef68414caeb8214cf23317b6b9bced7b9", func := "loop.example/lib-pathpatterns/laws.FnMatchBadOpen", spec := "fnMatchBadOpen", inPlace := ["internal/bytealg.IndexByteString"], named := ["unicode/utf8.first", "unicode/utf8.acceptRanges", "path.ErrBadPattern"], apart := false, laid := [("unicode/utf8.acceptRanges", laid_unicode_utf8_acceptRanges), ("path.ErrBadPattern", laid_path_ErrBadPattern), ("unicode/utf8.first", laid_unicode_utf8_first)] }
def FnMatchBadOpenSaid : Prop := fnMatchBadOpenRow.holds Tryd.pinned (OpenSpec.ofChange fnMatchBadOpenSpec)

/-- ITS FALSE NEIGHBOUR: 'it returns false'. Refute it at one input. -/
def fnMatchBadOpenWrong : ChangeSpec := { name := "fnMatchBadOpen", fn := fun _ => fun
  | [d] => { results := [.lit (.bool false)], args := [d] }
  | _ => none }
def FnMatchBadOpenWrongFalsely : Prop := fnMatchBadOpenRow.holds Tryd.pinned (OpenSpec.ofChange fnMatchBadOpenWrong)

/-- 'laws.FnAnyHead': WHATEVER THE INPUT: true; the input reads as it did. -/
def fnAnyHeadSpec : ChangeSpec := { name := "fnAnyHead", fn := fun _ => fun
  | [d] => { results := [.lit (.bool true)], args := [d] }
  | _ => none }
def fnAnyHeadRow : OpenClaim := { program := "ytiibjjhjbbidoaadoor", sum := "c9188324db1e17aebc042f3bc843e1aef68414caeb8214cf23317b6b9bced7b9", func := "loop.example/lib-pathpatterns/laws.FnAnyHead", spec := "fnAnyHead", inPlace := ["internal/bytealg.IndexByteString", "internal/reflectlite.TypeOf"], unfollowed := true, recurses := true, named := ["path.ErrBadPattern", "unicode/utf8.first", "unicode/utf8.acceptRanges"], apart := false, laid := [("unicode/utf8.acceptRanges", laid_unicode_utf8_acceptRanges), ("path.ErrBadPattern", laid_path_ErrBadPattern), ("unicode/utf8.first", laid_unicode_utf8_first)] }
def FnAnyHeadSaid : Prop := fnAnyHeadRow.holds Tryd.pinned (OpenSpec.ofChange fnAnyHeadSpec)

/-- ITS FALSE NEIGHBOUR: 'it returns false'. Refute it at one input. -/
def fnAnyHeadWrong : ChangeSpec := { name := "fnAnyHead", fn := fun _ => fun
  | [d] => { results := [.lit (.bool false)], args := [d] }
  | _ => none }
def FnAnyHeadWrongFalsely : Prop := fnAnyHeadRow.holds Tryd.pinned (OpenSpec.ofChange fnAnyHeadWrong)

/-- 'laws.FnClassEmptyRange': WHATEVER THE INPUT: true; the input reads as it did. -/
def fnClassEmptyRangeSpec : ChangeSpec := { name := "fnClassEmptyRange", fn := fun _ => fun
  | [d] => { results := [.lit (.bool true)], args := [d] }
  | _ => none }
def fnClassEmptyRangeRow : OpenClaim := { program := "ytiibjjhjbbidoaadoor", sum := "c9188324db1e17aebc042f3bc843e1aef68414caeb8214cf23317b6b9bced7b9", func := "loop.example/lib-pathpatterns/laws.FnClassEmptyRange", spec := "fnClassEmptyRange", inPlace := ["internal/bytealg.IndexByteString", "internal/reflectlite.TypeOf"], unfollowed := true, recurses := true, named := ["path.ErrBadPattern", "unicode/utf8.first", "unicode/utf8.acceptRanges"], apart := false, laid := [("unicode/utf8.acceptRanges", laid_unicode_utf8_acceptRanges), ("path.ErrBadPattern", laid_path_ErrBadPattern), ("unicode/utf8.first", laid_unicode_utf8_first)] }
def FnClassEmptyRangeSaid : Prop := fnClassEmptyRangeRow.holds Tryd.pinned (OpenSpec.ofChange fnClassEmptyRangeSpec)

/-- ITS FALSE NEIGHBOUR: 'it returns false'. Refute it at one input. -/
def fnClassEmptyRangeWrong : ChangeSpec := { name := "fnClassEmptyRange", fn := fun _ => fun
  | [d] => { results := [.lit (.bool false)], args := [d] }
  | _ => none }
def FnClassEmptyRangeWrongFalsely : Prop := fnClassEmptyRangeRow.holds Tryd.pinned (OpenSpec.ofChange fnClassEmptyRangeWrong)

/-- 'laws.FnClassHead': WHATEVER THE INPUT: true; the input reads as it did. -/
def fnClassHeadSpec : ChangeSpec := { name := "fnClassHead", fn := fun _ => fun
  | [d] => { results := [.lit (.bool true)], args := [d] }
  | _ => none }
def fnClassHeadRow : OpenClaim := { program := "ytiibjjhjbbidoaadoor", sum := "c9188324db1e17aebc042f3bc843e1aef68414caeb8214cf23317b6b9bced7b9", func := "loop.example/lib-pathpatterns/laws.FnClassHead", spec := "fnClassHead", inPlace := ["internal/bytealg.IndexByteString", "internal/reflectlite.TypeOf"], unfollowed := true, recurses := true, named := ["path.ErrBadPattern", "unicode/utf8.first", "unicode/utf8.acceptRanges"], apart := false, laid := [("unicode/utf8.acceptRanges", laid_unicode_utf8_acceptRanges), ("path.ErrBadPattern", laid_path_ErrBadPattern), ("unicode/utf8.first", laid_unicode_utf8_first)] }
def FnClassHeadSaid : Prop := fnClassHeadRow.holds Tryd.pinned (OpenSpec.ofChange fnClassHeadSpec)

/-- ITS FALSE NEIGHBOUR: 'it returns false'. Refute it at one input. -/
def fnClassHeadWrong : ChangeSpec := { name := "fnClassHead", fn := fun _ => fun
  | [d] => { results := [.lit (.bool false)], args := [d] }
  | _ => none }
def FnClassHeadWrongFalsely : Prop := fnClassHeadRow.holds Tryd.pinned (OpenSpec.ofChange fnClassHeadWrong)

/-- 'laws.FnClassLength': WHATEVER THE INPUT: true; the input reads as it did. -/
def fnClassLengthSpec : ChangeSpec := { name := "fnClassLength", fn := fun _ => fun
  | [d] => { results := [.lit (.bool true)], args := [d] }
  | _ => none }
def fnClassLengthRow : OpenClaim := { program := "ytiibjjhjbbidoaadoor", sum := "c9188324db1e17aebc042f3bc843e1aef68414caeb8214cf23317b6b9bced7b9", func := "loop.example/lib-pathpatterns/laws.FnClassLength", spec := "fnClassLength", inPlace := ["internal/bytealg.IndexByteString", "internal/reflectlite.TypeOf"], unfollowed := true, recurses := true, named := ["path.ErrBadPattern", "unicode/utf8.first", "unicode/utf8.acceptRanges"], apart := false, laid := [("unicode/utf8.acceptRanges", laid_unicode_utf8_acceptRanges), ("path.ErrBadPattern", laid_path_ErrBadPattern), ("unicode/utf8.first", laid_unicode_utf8_first)] }
def FnClassLengthSaid : Prop := fnClassLengthRow.holds Tryd.pinned (OpenSpec.ofChange fnClassLengthSpec)

/-- ITS FALSE NEIGHBOUR: 'it returns false'. Refute it at one input. -/
def fnClassLengthWrong : ChangeSpec := { name := "fnClassLength", fn := fun _ => fun
  | [d] => { results := [.lit (.bool false)], args := [d] }
  | _ => none }
def FnClassLengthWrongFalsely : Prop := fnClassLengthRow.holds Tryd.pinned (OpenSpec.ofChange fnClassLengthWrong)

/-- 'laws.FnClassNot': WHATEVER THE INPUT: true; the input reads as it did. -/
def fnClassNotSpec : ChangeSpec := { name := "fnClassNot", fn := fun _ => fun
  | [d] => { results := [.lit (.bool true)], args := [d] }
  | _ => none }
def fnClassNotRow : OpenClaim := { program := "ytiibjjhjbbidoaadoor", sum := "c9188324db1e17aebc042f3bc843e1aef68414caeb8214cf23317b6b9bced7b9", func := "loop.example/lib-pathpatterns/laws.FnClassNot", spec := "fnClassNot", inPlace := ["internal/bytealg.IndexByteString", "internal/reflectlite.TypeOf"], unfollowed := true, recurses := true, named := ["unicode/utf8.first", "unicode/utf8.acceptRanges", "path.ErrBadPattern"], apart := false, laid := [("unicode/utf8.acceptRanges", laid_unicode_utf8_acceptRanges), ("path.ErrBadPattern", laid_path_ErrBadPattern), ("unicode/utf8.first", laid_unicode_utf8_first)] }
def FnClassNotSaid : Prop := fnClassNotRow.holds Tryd.pinned (OpenSpec.ofChange fnClassNotSpec)

/-- ITS FALSE NEIGHBOUR: 'it returns false'. Refute it at one input. -/
def fnClassNotWrong : ChangeSpec := { name := "fnClassNot", fn := fun _ => fun
  | [d] => { results := [.lit (.bool false)], args := [d] }
  | _ => none }
def FnClassNotWrongFalsely : Prop := fnClassNotRow.holds Tryd.pinned (OpenSpec.ofChange fnClassNotWrong)

/-- 'laws.FnClassOne': WHATEVER THE INPUT: true; the input reads as it did. -/
def fnClassOneSpec : ChangeSpec := { name := "fnClassOne", fn := fun _ => fun
  | [d] => { results := [.lit (.bool true)], args := [d] }
  | _ => none }
def fnClassOneRow : OpenClaim := { program := "ytiibjjhjbbidoaadoor", sum := "c9188324db1e17aebc042f3bc843e1aef68414caeb8214cf23317b6b9bced7b9", func := "loop.example/lib-pathpatterns/laws.FnClassOne", spec := "fnClassOne", inPlace := ["internal/bytealg.IndexByteString", "internal/reflectlite.TypeOf"], unfollowed := true, recurses := true, named := ["unicode/utf8.first", "unicode/utf8.acceptRanges", "path.ErrBadPattern"], apart := false, laid := [("unicode/utf8.acceptRanges", laid_unicode_utf8_acceptRanges), ("path.ErrBadPattern", laid_path_ErrBadPattern), ("unicode/utf8.first", laid_unicode_utf8_first)] }
def FnClassOneSaid : Prop := fnClassOneRow.holds Tryd.pinned (OpenSpec.ofChange fnClassOneSpec)

/-- ITS FALSE NEIGHBOUR: 'it returns false'. Refute it at one input. -/
def fnClassOneWrong : ChangeSpec := { name := "fnClassOne", fn := fun _ => fun
  | [d] => { results := [.lit (.bool false)], args := [d] }
  | _ => none }
def FnClassOneWrongFalsely : Prop := fnClassOneRow.holds Tryd.pinned (OpenSpec.ofChange fnClassOneWrong)

/-- 'laws.FnClassOrder': WHATEVER THE INPUT: true; the input reads as it did. -/
def fnClassOrderSpec : ChangeSpec := { name := "fnClassOrder", fn := fun _ => fun
  | [d] => { results := [.lit (.bool true)], args := [d] }
  | _ => none }
def fnClassOrderRow : OpenClaim := { program := "ytiibjjhjbbidoaadoor", sum := "c9188324db1e17aebc042f3bc843e1aef68414caeb8214cf23317b6b9bced7b9", func := "loop.example/lib-pathpatterns/laws.FnClassOrder", spec := "fnClassOrder", inPlace := ["internal/bytealg.IndexByteString", "internal/reflectlite.TypeOf"], unfollowed := true, recurses := true, named := ["path.ErrBadPattern", "unicode/utf8.first", "unicode/utf8.acceptRanges"], apart := false, laid := [("unicode/utf8.acceptRanges", laid_unicode_utf8_acceptRanges), ("path.ErrBadPattern", laid_path_ErrBadPattern), ("unicode/utf8.first", laid_unicode_utf8_first)] }
def FnClassOrderSaid : Prop := fnClassOrderRow.holds Tryd.pinned (OpenSpec.ofChange fnClassOrderSpec)

/-- ITS FALSE NEIGHBOUR: 'it returns false'. Refute it at one input. -/
def fnClassOrderWrong : ChangeSpec := { name := "fnClassOrder", fn := fun _ => fun
  | [d] => { results := [.lit (.bool false)], args := [d] }
  | _ => none }
def FnClassOrderWrongFalsely : Prop := fnClassOrderRow.holds Tryd.pinned (OpenSpec.ofChange fnClassOrderWrong)

/-- 'laws.FnClassSlash': WHATEVER THE INPUT: true; the input reads as it did. -/
def fnClassSlashSpec : ChangeSpec := { name := "fnClassSlash", fn := fun _ => fun
  | [d] => { results := [.lit (.bool true)], args := [d] }
  | _ => none }
def fnClassSlashRow : OpenClaim := { program := "ytiibjjhjbbidoaadoor", sum := "c9188324db1e17aebc042f3bc843e1aef68414caeb8214cf23317b6b9bced7b9", func := "loop.example/lib-pathpatterns/laws.FnClassSlash", spec := "fnClassSlash", inPlace := ["internal/bytealg.IndexByteString", "internal/reflectlite.TypeOf"], unfollowed := true, recurses := true, named := ["path.ErrBadPattern", "unicode/utf8.first", "unicode/utf8.acceptRanges"], apart := false, laid := [("unicode/utf8.acceptRanges", laid_unicode_utf8_acceptRanges), ("path.ErrBadPattern", laid_path_ErrBadPattern), ("unicode/utf8.first", laid_unicode_utf8_first)] }
def FnClassSlashSaid : Prop := fnClassSlashRow.holds Tryd.pinned (OpenSpec.ofChange fnClassSlashSpec)

/-- ITS FALSE NEIGHBOUR: 'it returns false'. Refute it at one input. -/
def fnClassSlashWrong : ChangeSpec := { name := "fnClassSlash", fn := fun _ => fun
  | [d] => { results := [.lit (.bool false)], args := [d] }
  | _ => none }
def FnClassSlashWrongFalsely : Prop := fnClassSlashRow.holds Tryd.pinned (OpenSpec.ofChange fnClassSlashWrong)

/-- 'laws.FnJoinMatch': WHATEVER THE INPUT: true; the input reads as it did. -/
def fnJoinMatchSpec : ChangeSpec := { name := "fnJoinMatch", fn := fun _ => fun
  | [d] => { results := [.lit (.bool true)], args := [d] }
  | _ => none }
def fnJoinMatchRow : OpenClaim := { program := "ytiibjjhjbbidoaadoor", sum := "c9188324db1e17aebc042f3bc843e1aef68414caeb8214cf23317b6b9bced7b9", func := "loop.example/lib-pathpatterns/laws.FnJoinMatch", spec := "fnJoinMatch", inPlace := ["internal/bytealg.IndexByteString", "internal/reflectlite.TypeOf", "internal/bytealg.IndexString", "internal/abi.NoEscape", "internal/bytealg.MakeNoZero"], unfollowed := true, recurses := true, named := ["path.ErrBadPattern", "unicode/utf8.first", "unicode/utf8.acceptRanges", "internal/bytealg.MaxLen"], apart := false, laid := [("unicode/utf8.acceptRanges", laid_unicode_utf8_acceptRanges), ("path.ErrBadPattern", laid_path_ErrBadPattern), ("unicode/utf8.first", laid_unicode_utf8_first)] }
def FnJoinMatchSaid : Prop := fnJoinMatchRow.holds Tryd.pinned (OpenSpec.ofChange fnJoinMatchSpec)

/-- ITS FALSE NEIGHBOUR: 'it returns false'. Refute it at one input. -/
def fnJoinMatchWrong : ChangeSpec := { name := "fnJoinMatch", fn := fun _ => fun
  | [d] => { results := [.lit (.bool false)], args := [d] }
  | _ => none }
def FnJoinMatchWrongFalsely : Prop := fnJoinMatchRow.holds Tryd.pinned (OpenSpec.ofChange fnJoinMatchWrong)

/-- 'laws.FnClassSpread': WHATEVER THE INPUT: true; the input reads as it did. -/
def fnClassSpreadSpec : ChangeSpec := { name := "fnClassSpread", fn := fun _ => fun
  | [d] => { results := [.lit (.bool true)], args := [d] }
  | _ => none }
def fnClassSpreadRow : OpenClaim := { program := "ytiibjjhjbbidoaadoor", sum := "c9188324db1e17aebc042f3bc843e1aef68414caeb8214cf23317b6b9bced7b9", func := "loop.example/lib-pathpatterns/laws.FnClassSpread", spec := "fnClassSpread", inPlace := ["internal/bytealg.IndexByteString", "internal/reflectlite.TypeOf"], unfollowed := true, recurses := true, named := ["path.ErrBadPattern", "unicode/utf8.first", "unicode/utf8.acceptRanges"], apart := false, laid := [("unicode/utf8.acceptRanges", laid_unicode_utf8_acceptRanges), ("path.ErrBadPattern", laid_path_ErrBadPattern), ("unicode/utf8.first", laid_unicode_utf8_first)] }
def FnClassSpreadSaid : Prop := fnClassSpreadRow.holds Tryd.pinned (OpenSpec.ofChange fnClassSpreadSpec)

/-- ITS FALSE NEIGHBOUR: 'it returns false'. Refute it at one input. -/
def fnClassSpreadWrong : ChangeSpec := { name := "fnClassSpread", fn := fun _ => fun
  | [d] => { results := [.lit (.bool false)], args := [d] }
  | _ => none }
def FnClassSpreadWrongFalsely : Prop := fnClassSpreadRow.holds Tryd.pinned (OpenSpec.ofChange fnClassSpreadWrong)

/-- 'laws.FnClassTwice': WHATEVER THE INPUT: true; the input reads as it did. -/
def fnClassTwiceSpec : ChangeSpec := { name := "fnClassTwice", fn := fun _ => fun
  | [d] => { results := [.lit (.bool true)], args := [d] }
  | _ => none }
def fnClassTwiceRow : OpenClaim := { program := "ytiibjjhjbbidoaadoor", sum := "c9188324db1e17aebc042f3bc843e1aef68414caeb8214cf23317b6b9bced7b9", func := "loop.example/lib-pathpatterns/laws.FnClassTwice", spec := "fnClassTwice", inPlace := ["internal/bytealg.IndexByteString", "internal/reflectlite.TypeOf"], unfollowed := true, recurses := true, named := ["path.ErrBadPattern", "unicode/utf8.first", "unicode/utf8.acceptRanges"], apart := false, laid := [("unicode/utf8.acceptRanges", laid_unicode_utf8_acceptRanges), ("path.ErrBadPattern", laid_path_ErrBadPattern), ("unicode/utf8.first", laid_unicode_utf8_first)] }
def FnClassTwiceSaid : Prop := fnClassTwiceRow.holds Tryd.pinned (OpenSpec.ofChange fnClassTwiceSpec)

/-- ITS FALSE NEIGHBOUR: 'it returns false'. Refute it at one input. -/
def fnClassTwiceWrong : ChangeSpec := { name := "fnClassTwice", fn := fun _ => fun
  | [d] => { results := [.lit (.bool false)], args := [d] }
  | _ => none }
def FnClassTwiceWrongFalsely : Prop := fnClassTwiceRow.holds Tryd.pinned (OpenSpec.ofChange fnClassTwiceWrong)

/- THE SECOND FORM. 'bulk': how many values and letters a reading holds, each counted each time it is reached (what is shared counts as often as it is met; a slice's spare places count too). A statement '..UptoSaid' is the law's where the arguments, and the package variables that the reading takes, are together of bulk at most 1048576: NARROWER than '..Said'. Prove '..Said' where nothing that the law and all that it calls make is longer than what came in: it says more and counts as full. Else prove '..UptoSaid'. A law counts once. -/
mutual
def uptoBulk {H : Type} : DataW H → Nat
  | .lit (.string bytes) => bytes.length + 1
  | .lit _ => 1
  | .nil => 1
  | .ptr d => uptoBulk d + 1
  | .slice elems spare => uptoBulkAll elems + uptoBulkAll spare + 1
  | .agg parts => uptoBulkAll parts + 1
  | .iface _ d => uptoBulk d + 1
  | .map entries => uptoBulkEntries entries + 1
  | .held _ => 1
def uptoBulkAll {H : Type} : List (DataW H) → Nat
  | [] => 0
  | d :: r => uptoBulk d + uptoBulkAll r
def uptoBulkEntries {H : Type} : List (Lit × DataW H) → Nat
  | [] => 0
  | x :: r => uptoBulkEntry x + uptoBulkEntries r
def uptoBulkEntry {H : Type} : Lit × DataW H → Nat
  | (.string bytes, d) => bytes.length + uptoBulk d + 1
  | (_, d) => uptoBulk d + 1
 end
def uptoSmall : (H : Type) → List (DataW H) → Bool := fun _ ds => decide (uptoBulkAll ds ≤ 1048576)
def OpenSpec.upto (s : _root_.Go.ChangeSpec) : _root_.Go.OpenSpec := { _root_.Go.OpenSpec.ofChange s with cond := some uptoSmall }

/-- 'laws.FnMatchBadOpen', WHERE WHAT IT READS IS OF BULK AT MOST 1048576: true; the input reads as it did. -/
def fnMatchBadOpenUptoRow : OpenClaim := { program := "ytiibjjhjbbidoaadoor", sum := "c9188324db1e17aebc042f3bc843e1aef68414caeb8214cf23317b6b9bced7b9", func := "loop.example/lib-pathpatterns/laws.FnMatchBadOpen", spec := "fnMatchBadOpen", inPlace := ["internal/bytealg.IndexByteString"], named := ["unicode/utf8.first", "unicode/utf8.acceptRanges", "path.ErrBadPattern"], apart := false, laid := [("unicode/utf8.acceptRanges", laid_unicode_utf8_acceptRanges), ("path.ErrBadPattern", laid_path_ErrBadPattern), ("unicode/utf8.first", laid_unicode_utf8_first)], narrowed := true }
def FnMatchBadOpenUptoSaid : Prop := fnMatchBadOpenUptoRow.holds Tryd.pinned (OpenSpec.upto fnMatchBadOpenSpec)

/-- 'laws.FnAnyHead', WHERE WHAT IT READS IS OF BULK AT MOST 1048576: true; the input reads as it did. -/
def fnAnyHeadUptoRow : OpenClaim := { program := "ytiibjjhjbbidoaadoor", sum := "c9188324db1e17aebc042f3bc843e1aef68414caeb8214cf23317b6b9bced7b9", func := "loop.example/lib-pathpatterns/laws.FnAnyHead", spec := "fnAnyHead", inPlace := ["internal/bytealg.IndexByteString", "internal/reflectlite.TypeOf"], unfollowed := true, recurses := true, named := ["path.ErrBadPattern", "unicode/utf8.first", "unicode/utf8.acceptRanges"], apart := false, laid := [("unicode/utf8.acceptRanges", laid_unicode_utf8_acceptRanges), ("path.ErrBadPattern", laid_path_ErrBadPattern), ("unicode/utf8.first", laid_unicode_utf8_first)], narrowed := true }
def FnAnyHeadUptoSaid : Prop := fnAnyHeadUptoRow.holds Tryd.pinned (OpenSpec.upto fnAnyHeadSpec)

/-- 'laws.FnClassEmptyRange', WHERE WHAT IT READS IS OF BULK AT MOST 1048576: true; the input reads as it did. -/
def fnClassEmptyRangeUptoRow : OpenClaim := { program := "ytiibjjhjbbidoaadoor", sum := "c9188324db1e17aebc042f3bc843e1aef68414caeb8214cf23317b6b9bced7b9", func := "loop.example/lib-pathpatterns/laws.FnClassEmptyRange", spec := "fnClassEmptyRange", inPlace := ["internal/bytealg.IndexByteString", "internal/reflectlite.TypeOf"], unfollowed := true, recurses := true, named := ["path.ErrBadPattern", "unicode/utf8.first", "unicode/utf8.acceptRanges"], apart := false, laid := [("unicode/utf8.acceptRanges", laid_unicode_utf8_acceptRanges), ("path.ErrBadPattern", laid_path_ErrBadPattern), ("unicode/utf8.first", laid_unicode_utf8_first)], narrowed := true }
def FnClassEmptyRangeUptoSaid : Prop := fnClassEmptyRangeUptoRow.holds Tryd.pinned (OpenSpec.upto fnClassEmptyRangeSpec)

/-- 'laws.FnClassHead', WHERE WHAT IT READS IS OF BULK AT MOST 1048576: true; the input reads as it did. -/
def fnClassHeadUptoRow : OpenClaim := { program := "ytiibjjhjbbidoaadoor", sum := "c9188324db1e17aebc042f3bc843e1aef68414caeb8214cf23317b6b9bced7b9", func := "loop.example/lib-pathpatterns/laws.FnClassHead", spec := "fnClassHead", inPlace := ["internal/bytealg.IndexByteString", "internal/reflectlite.TypeOf"], unfollowed := true, recurses := true, named := ["path.ErrBadPattern", "unicode/utf8.first", "unicode/utf8.acceptRanges"], apart := false, laid := [("unicode/utf8.acceptRanges", laid_unicode_utf8_acceptRanges), ("path.ErrBadPattern", laid_path_ErrBadPattern), ("unicode/utf8.first", laid_unicode_utf8_first)], narrowed := true }
def FnClassHeadUptoSaid : Prop := fnClassHeadUptoRow.holds Tryd.pinned (OpenSpec.upto fnClassHeadSpec)

/-- 'laws.FnClassLength', WHERE WHAT IT READS IS OF BULK AT MOST 1048576: true; the input reads as it did. -/
def fnClassLengthUptoRow : OpenClaim := { program := "ytiibjjhjbbidoaadoor", sum := "c9188324db1e17aebc042f3bc843e1aef68414caeb8214cf23317b6b9bced7b9", func := "loop.example/lib-pathpatterns/laws.FnClassLength", spec := "fnClassLength", inPlace := ["internal/bytealg.IndexByteString", "internal/reflectlite.TypeOf"], unfollowed := true, recurses := true, named := ["path.ErrBadPattern", "unicode/utf8.first", "unicode/utf8.acceptRanges"], apart := false, laid := [("unicode/utf8.acceptRanges", laid_unicode_utf8_acceptRanges), ("path.ErrBadPattern", laid_path_ErrBadPattern), ("unicode/utf8.first", laid_unicode_utf8_first)], narrowed := true }
def FnClassLengthUptoSaid : Prop := fnClassLengthUptoRow.holds Tryd.pinned (OpenSpec.upto fnClassLengthSpec)

/-- 'laws.FnClassNot', WHERE WHAT IT READS IS OF BULK AT MOST 1048576: true; the input reads as it did. -/
def fnClassNotUptoRow : OpenClaim := { program := "ytiibjjhjbbidoaadoor", sum := "c9188324db1e17aebc042f3bc843e1aef68414caeb8214cf23317b6b9bced7b9", func := "loop.example/lib-pathpatterns/laws.FnClassNot", spec := "fnClassNot", inPlace := ["internal/bytealg.IndexByteString", "internal/reflectlite.TypeOf"], unfollowed := true, recurses := true, named := ["unicode/utf8.first", "unicode/utf8.acceptRanges", "path.ErrBadPattern"], apart := false, laid := [("unicode/utf8.acceptRanges", laid_unicode_utf8_acceptRanges), ("path.ErrBadPattern", laid_path_ErrBadPattern), ("unicode/utf8.first", laid_unicode_utf8_first)], narrowed := true }
def FnClassNotUptoSaid : Prop := fnClassNotUptoRow.holds Tryd.pinned (OpenSpec.upto fnClassNotSpec)

/-- 'laws.FnClassOne', WHERE WHAT IT READS IS OF BULK AT MOST 1048576: true; the input reads as it did. -/
def fnClassOneUptoRow : OpenClaim := { program := "ytiibjjhjbbidoaadoor", sum := "c9188324db1e17aebc042f3bc843e1aef68414caeb8214cf23317b6b9bced7b9", func := "loop.example/lib-pathpatterns/laws.FnClassOne", spec := "fnClassOne", inPlace := ["internal/bytealg.IndexByteString", "internal/reflectlite.TypeOf"], unfollowed := true, recurses := true, named := ["unicode/utf8.first", "unicode/utf8.acceptRanges", "path.ErrBadPattern"], apart := false, laid := [("unicode/utf8.acceptRanges", laid_unicode_utf8_acceptRanges), ("path.ErrBadPattern", laid_path_ErrBadPattern), ("unicode/utf8.first", laid_unicode_utf8_first)], narrowed := true }
def FnClassOneUptoSaid : Prop := fnClassOneUptoRow.holds Tryd.pinned (OpenSpec.upto fnClassOneSpec)

/-- 'laws.FnClassOrder', WHERE WHAT IT READS IS OF BULK AT MOST 1048576: true; the input reads as it did. -/
def fnClassOrderUptoRow : OpenClaim := { program := "ytiibjjhjbbidoaadoor", sum := "c9188324db1e17aebc042f3bc843e1aef68414caeb8214cf23317b6b9bced7b9", func := "loop.example/lib-pathpatterns/laws.FnClassOrder", spec := "fnClassOrder", inPlace := ["internal/bytealg.IndexByteString", "internal/reflectlite.TypeOf"], unfollowed := true, recurses := true, named := ["path.ErrBadPattern", "unicode/utf8.first", "unicode/utf8.acceptRanges"], apart := false, laid := [("unicode/utf8.acceptRanges", laid_unicode_utf8_acceptRanges), ("path.ErrBadPattern", laid_path_ErrBadPattern), ("unicode/utf8.first", laid_unicode_utf8_first)], narrowed := true }
def FnClassOrderUptoSaid : Prop := fnClassOrderUptoRow.holds Tryd.pinned (OpenSpec.upto fnClassOrderSpec)

/-- 'laws.FnClassSlash', WHERE WHAT IT READS IS OF BULK AT MOST 1048576: true; the input reads as it did. -/
def fnClassSlashUptoRow : OpenClaim := { program := "ytiibjjhjbbidoaadoor", sum := "c9188324db1e17aebc042f3bc843e1aef68414caeb8214cf23317b6b9bced7b9", func := "loop.example/lib-pathpatterns/laws.FnClassSlash", spec := "fnClassSlash", inPlace := ["internal/bytealg.IndexByteString", "internal/reflectlite.TypeOf"], unfollowed := true, recurses := true, named := ["path.ErrBadPattern", "unicode/utf8.first", "unicode/utf8.acceptRanges"], apart := false, laid := [("unicode/utf8.acceptRanges", laid_unicode_utf8_acceptRanges), ("path.ErrBadPattern", laid_path_ErrBadPattern), ("unicode/utf8.first", laid_unicode_utf8_first)], narrowed := true }
def FnClassSlashUptoSaid : Prop := fnClassSlashUptoRow.holds Tryd.pinned (OpenSpec.upto fnClassSlashSpec)

/-- 'laws.FnJoinMatch', WHERE WHAT IT READS IS OF BULK AT MOST 1048576: true; the input reads as it did. -/
def fnJoinMatchUptoRow : OpenClaim := { program := "ytiibjjhjbbidoaadoor", sum := "c9188324db1e17aebc042f3bc843e1aef68414caeb8214cf23317b6b9bced7b9", func := "loop.example/lib-pathpatterns/laws.FnJoinMatch", spec := "fnJoinMatch", inPlace := ["internal/bytealg.IndexByteString", "internal/reflectlite.TypeOf", "internal/bytealg.IndexString", "internal/abi.NoEscape", "internal/bytealg.MakeNoZero"], unfollowed := true, recurses := true, named := ["path.ErrBadPattern", "unicode/utf8.first", "unicode/utf8.acceptRanges", "internal/bytealg.MaxLen"], apart := false, laid := [("unicode/utf8.acceptRanges", laid_unicode_utf8_acceptRanges), ("path.ErrBadPattern", laid_path_ErrBadPattern), ("unicode/utf8.first", laid_unicode_utf8_first)], narrowed := true }
def FnJoinMatchUptoSaid : Prop := fnJoinMatchUptoRow.holds Tryd.pinned (OpenSpec.upto fnJoinMatchSpec)

/-- 'laws.FnClassSpread', WHERE WHAT IT READS IS OF BULK AT MOST 1048576: true; the input reads as it did. -/
def fnClassSpreadUptoRow : OpenClaim := { program := "ytiibjjhjbbidoaadoor", sum := "c9188324db1e17aebc042f3bc843e1aef68414caeb8214cf23317b6b9bced7b9", func := "loop.example/lib-pathpatterns/laws.FnClassSpread", spec := "fnClassSpread", inPlace := ["internal/bytealg.IndexByteString", "internal/reflectlite.TypeOf"], unfollowed := true, recurses := true, named := ["path.ErrBadPattern", "unicode/utf8.first", "unicode/utf8.acceptRanges"], apart := false, laid := [("unicode/utf8.acceptRanges", laid_unicode_utf8_acceptRanges), ("path.ErrBadPattern", laid_path_ErrBadPattern), ("unicode/utf8.first", laid_unicode_utf8_first)], narrowed := true }
def FnClassSpreadUptoSaid : Prop := fnClassSpreadUptoRow.holds Tryd.pinned (OpenSpec.upto fnClassSpreadSpec)

/-- 'laws.FnClassTwice', WHERE WHAT IT READS IS OF BULK AT MOST 1048576: true; the input reads as it did. -/
def fnClassTwiceUptoRow : OpenClaim := { program := "ytiibjjhjbbidoaadoor", sum := "c9188324db1e17aebc042f3bc843e1aef68414caeb8214cf23317b6b9bced7b9", func := "loop.example/lib-pathpatterns/laws.FnClassTwice", spec := "fnClassTwice", inPlace := ["internal/bytealg.IndexByteString", "internal/reflectlite.TypeOf"], unfollowed := true, recurses := true, named := ["path.ErrBadPattern", "unicode/utf8.first", "unicode/utf8.acceptRanges"], apart := false, laid := [("unicode/utf8.acceptRanges", laid_unicode_utf8_acceptRanges), ("path.ErrBadPattern", laid_path_ErrBadPattern), ("unicode/utf8.first", laid_unicode_utf8_first)], narrowed := true }
def FnClassTwiceUptoSaid : Prop := fnClassTwiceUptoRow.holds Tryd.pinned (OpenSpec.upto fnClassTwiceSpec)

end Rows
end Go.Proofs.YtiibjjhjbbidoaaDoor

/-
  NARROWER THAN 'FOR EVERY INPUT', by the rows' own cells (each row's printed sentence says how): FnBadNameBytes: laid · FnExactBase: laid · FnMatchBadFalse: laid · FnPlainBytes: laid · FnQuoteBytes: laid · FnMatchOnlyBad: laid · FnExactFails: laid · FnExactFailsCorner: laid · FnMatchBadClosing: laid · FnAnyMany: laid · FnMatchBadInside: laid.
  DERIVED. THE GIVEN ROWS OF THIS SEAT. 11 by the template 'for every input the law returns true; each argument reads behind the call as it read before'; 0 by the template 'total and deterministic' (their statements: YtfmokdgapfbkbaaDoorTotals.lean).
  GIVEN WITH THE SEED: the statements are not yours to turn. If you find one false, say at which input.
  Laid BY PROGRAM, IN A SANDBOX (cutbox-rows.mjs): the forced cells as the released guide's own fill.sh prints them over the translation 7e9217ead10e542d… (all of the seat's roots in one cut). By AI agents, Wed Nov 11 2026. No macro, syntax, notation, axiom, sorry.
-/
import Derived.Test.YtfmokdgapfbkbaaDoorChecked
import GoSem.PinnedTables
import GoSem.Claim
import GoSem.ClaimJoined
import GoSem.ClaimMapViews
import Derived.JoinedTies
import Derived.KernelRfl
namespace Go.Proofs.YtfmokdgapfbkbaaDoor
/- THE CELL 'sum', in the pinned program and in every row, IS THE sha256 OF THE DUMP (.gsa) THAT YtfmokdgapfbkbaaDoorProg.lean LOADS. Nothing in Lean hashes anything: it is a label: what it is worth is what the hold of that sum in a sandbox is worth. -/
noncomputable def Tryd.pinned : Pinned := { name := "ytfmokdgapfbkbaadoor", sum := "7e9217ead10e542d5c8fa6a327ac43538db21785d072bed64f585a2a3c5802dc", checked := Tryd.checked }
namespace Rows
def none {H : Type} : Left H := { results := [], args := [] }

/- WHAT THE LISTED PACKAGE-LEVEL VARIABLES READ AS WHEN THE CALL BEGINS. Each datum BY PROGRAM (the guide's laid-datum.mjs) off the statement by which the dump's own 'gosem.cut.vars' lays the variable. In a bare row this is a premise. The card (YtfmokdgapfbkbaaDoorCards.lean) ties it to the program's text. -/
def laid_unicode_utf8_acceptRanges {H : Type} : DataW H := .agg [.agg [.lit (.int .u8 128), .lit (.int .u8 191)], .agg [.lit (.int .u8 160), .lit (.int .u8 191)], .agg [.lit (.int .u8 128), .lit (.int .u8 159)], .agg [.lit (.int .u8 144), .lit (.int .u8 191)], .agg [.lit (.int .u8 128), .lit (.int .u8 143)], .agg [.lit (.int .u8 0), .lit (.int .u8 0)], .agg [.lit (.int .u8 0), .lit (.int .u8 0)], .agg [.lit (.int .u8 0), .lit (.int .u8 0)], .agg [.lit (.int .u8 0), .lit (.int .u8 0)], .agg [.lit (.int .u8 0), .lit (.int .u8 0)], .agg [.lit (.int .u8 0), .lit (.int .u8 0)], .agg [.lit (.int .u8 0), .lit (.int .u8 0)], .agg [.lit (.int .u8 0), .lit (.int .u8 0)], .agg [.lit (.int .u8 0), .lit (.int .u8 0)], .agg [.lit (.int .u8 0), .lit (.int .u8 0)], .agg [.lit (.int .u8 0), .lit (.int .u8 0)]]
def laid_path_ErrBadPattern {H : Type} : DataW H := .iface "*errors.errorString" (.ptr (.agg [.lit (.string [115, 121, 110, 116, 97, 120, 32, 101, 114, 114, 111, 114, 32, 105, 110, 32, 112, 97, 116, 116, 101, 114, 110])]))
/-- One of Go's own tables, pinned by name: the form's constant. -/
def laid_unicode_utf8_first : DataW Unit := Go.Pinned.utf8First

/-- 'laws.FnBadNameBytes': WHATEVER THE INPUT: true; the input reads as it did. -/
def fnBadNameBytesSpec : ChangeSpec := { name := "fnBadNameBytes", fn := fun _ => fun
  | [d] => { results := [.lit (.bool true)], args := [d] }
  | _ => none }
def fnBadNameBytesRow : OpenClaim := { program := "ytfmokdgapfbkbaadoor", sum := "7e9217ead10e542d5c8fa6a327ac43538db21785d072bed64f585a2a3c5802dc", func := "loop.example/lib-pathpatterns/laws.FnBadNameBytes", spec := "fnBadNameBytes", inPlace := ["internal/bytealg.IndexByteString"], named := ["path.ErrBadPattern", "unicode/utf8.first", "unicode/utf8.acceptRanges"], apart := false, laid := [("unicode/utf8.acceptRanges", laid_unicode_utf8_acceptRanges), ("path.ErrBadPattern", laid_path_ErrBadPattern), ("unicode/utf8.first", laid_unicode_utf8_first)] }
def FnBadNameBytesSaid : Prop := fnBadNameBytesRow.holds Tryd.pinned (OpenSpec.ofChange fnBadNameBytesSpec)

/-- ITS FALSE NEIGHBOUR: 'it returns false'. Refute it at one input. -/
def fnBadNameBytesWrong : ChangeSpec := { name := "fnBadNameBytes", fn := fun _ => fun
  | [d] => { results := [.lit (.bool false)], args := [d] }
  | _ => none }
def FnBadNameBytesWrongFalsely : Prop := fnBadNameBytesRow.holds Tryd.pinned (OpenSpec.ofChange fnBadNameBytesWrong)

/-- 'laws.FnExactBase': WHATEVER THE INPUT: true; the input reads as it did. -/
def fnExactBaseSpec : ChangeSpec := { name := "fnExactBase", fn := fun _ => fun
  | [d] => { results := [.lit (.bool true)], args := [d] }
  | _ => none }
def fnExactBaseRow : OpenClaim := { program := "ytfmokdgapfbkbaadoor", sum := "7e9217ead10e542d5c8fa6a327ac43538db21785d072bed64f585a2a3c5802dc", func := "loop.example/lib-pathpatterns/laws.FnExactBase", spec := "fnExactBase", inPlace := ["internal/bytealg.IndexByteString", "internal/bytealg.IndexString"], named := ["unicode/utf8.first", "unicode/utf8.acceptRanges", "internal/bytealg.MaxLen"], apart := false, laid := [("unicode/utf8.acceptRanges", laid_unicode_utf8_acceptRanges), ("unicode/utf8.first", laid_unicode_utf8_first)] }
def FnExactBaseSaid : Prop := fnExactBaseRow.holds Tryd.pinned (OpenSpec.ofChange fnExactBaseSpec)

/-- ITS FALSE NEIGHBOUR: 'it returns false'. Refute it at one input. -/
def fnExactBaseWrong : ChangeSpec := { name := "fnExactBase", fn := fun _ => fun
  | [d] => { results := [.lit (.bool false)], args := [d] }
  | _ => none }
def FnExactBaseWrongFalsely : Prop := fnExactBaseRow.holds Tryd.pinned (OpenSpec.ofChange fnExactBaseWrong)

/-- 'laws.FnMatchBadFalse': WHATEVER THE INPUT: true; the input reads as it did. -/
def fnMatchBadFalseSpec : ChangeSpec := { name := "fnMatchBadFalse", fn := fun _ => fun
  | [d] => { results := [.lit (.bool true)], args := [d] }
  | _ => none }
def fnMatchBadFalseRow : OpenClaim := { program := "ytfmokdgapfbkbaadoor", sum := "7e9217ead10e542d5c8fa6a327ac43538db21785d072bed64f585a2a3c5802dc", func := "loop.example/lib-pathpatterns/laws.FnMatchBadFalse", spec := "fnMatchBadFalse", inPlace := ["internal/bytealg.IndexByteString", "internal/reflectlite.TypeOf"], unfollowed := true, recurses := true, named := ["path.ErrBadPattern", "unicode/utf8.first", "unicode/utf8.acceptRanges"], apart := false, laid := [("unicode/utf8.acceptRanges", laid_unicode_utf8_acceptRanges), ("path.ErrBadPattern", laid_path_ErrBadPattern), ("unicode/utf8.first", laid_unicode_utf8_first)] }
def FnMatchBadFalseSaid : Prop := fnMatchBadFalseRow.holds Tryd.pinned (OpenSpec.ofChange fnMatchBadFalseSpec)

/-- ITS FALSE NEIGHBOUR: 'it returns false'. Refute it at one input. -/
def fnMatchBadFalseWrong : ChangeSpec := { name := "fnMatchBadFalse", fn := fun _ => fun
  | [d] => { results := [.lit (.bool false)], args := [d] }
  | _ => none }
def FnMatchBadFalseWrongFalsely : Prop := fnMatchBadFalseRow.holds Tryd.pinned (OpenSpec.ofChange fnMatchBadFalseWrong)

/-- 'laws.FnPlainBytes': WHATEVER THE INPUT: true; the input reads as it did. -/
def fnPlainBytesSpec : ChangeSpec := { name := "fnPlainBytes", fn := fun _ => fun
  | [d] => { results := [.lit (.bool true)], args := [d] }
  | _ => none }
def fnPlainBytesRow : OpenClaim := { program := "ytfmokdgapfbkbaadoor", sum := "7e9217ead10e542d5c8fa6a327ac43538db21785d072bed64f585a2a3c5802dc", func := "loop.example/lib-pathpatterns/laws.FnPlainBytes", spec := "fnPlainBytes", inPlace := ["internal/bytealg.IndexByteString", "internal/reflectlite.TypeOf"], unfollowed := true, recurses := true, named := ["path.ErrBadPattern", "unicode/utf8.first", "unicode/utf8.acceptRanges"], apart := false, laid := [("unicode/utf8.acceptRanges", laid_unicode_utf8_acceptRanges), ("path.ErrBadPattern", laid_path_ErrBadPattern), ("unicode/utf8.first", laid_unicode_utf8_first)] }
def FnPlainBytesSaid : Prop := fnPlainBytesRow.holds Tryd.pinned (OpenSpec.ofChange fnPlainBytesSpec)

/-- ITS FALSE NEIGHBOUR: 'it returns false'. Refute it at one input. -/
def fnPlainBytesWrong : ChangeSpec := { name := "fnPlainBytes", fn := fun _ => fun
  | [d] => { results := [.lit (.bool false)], args := [d] }
  | _ => none }
def FnPlainBytesWrongFalsely : Prop := fnPlainBytesRow.holds Tryd.pinned (OpenSpec.ofChange fnPlainBytesWrong)

/-- 'laws.FnQuoteBytes': WHATEVER THE INPUT: true; the input reads as it did. -/
def fnQuoteBytesSpec : ChangeSpec := { name := "fnQuoteBytes", fn := fun _ => fun
  | [d] => { results := [.lit (.bool true)], args := [d] }
  | _ => none }
def fnQuoteBytesRow : OpenClaim := { program := "ytfmokdgapfbkbaadoor", sum := "7e9217ead10e542d5c8fa6a327ac43538db21785d072bed64f585a2a3c5802dc", func := "loop.example/lib-pathpatterns/laws.FnQuoteBytes", spec := "fnQuoteBytes", inPlace := ["internal/bytealg.IndexByteString", "internal/reflectlite.TypeOf"], unfollowed := true, recurses := true, named := ["path.ErrBadPattern", "unicode/utf8.first", "unicode/utf8.acceptRanges"], apart := false, laid := [("unicode/utf8.acceptRanges", laid_unicode_utf8_acceptRanges), ("path.ErrBadPattern", laid_path_ErrBadPattern), ("unicode/utf8.first", laid_unicode_utf8_first)] }
def FnQuoteBytesSaid : Prop := fnQuoteBytesRow.holds Tryd.pinned (OpenSpec.ofChange fnQuoteBytesSpec)

/-- ITS FALSE NEIGHBOUR: 'it returns false'. Refute it at one input. -/
def fnQuoteBytesWrong : ChangeSpec := { name := "fnQuoteBytes", fn := fun _ => fun
  | [d] => { results := [.lit (.bool false)], args := [d] }
  | _ => none }
def FnQuoteBytesWrongFalsely : Prop := fnQuoteBytesRow.holds Tryd.pinned (OpenSpec.ofChange fnQuoteBytesWrong)

/-- 'laws.FnMatchOnlyBad': WHATEVER THE INPUT: true; the input reads as it did. -/
def fnMatchOnlyBadSpec : ChangeSpec := { name := "fnMatchOnlyBad", fn := fun _ => fun
  | [d] => { results := [.lit (.bool true)], args := [d] }
  | _ => none }
def fnMatchOnlyBadRow : OpenClaim := { program := "ytfmokdgapfbkbaadoor", sum := "7e9217ead10e542d5c8fa6a327ac43538db21785d072bed64f585a2a3c5802dc", func := "loop.example/lib-pathpatterns/laws.FnMatchOnlyBad", spec := "fnMatchOnlyBad", inPlace := ["internal/bytealg.IndexByteString", "internal/reflectlite.TypeOf"], unfollowed := true, recurses := true, named := ["path.ErrBadPattern", "unicode/utf8.first", "unicode/utf8.acceptRanges"], apart := false, laid := [("unicode/utf8.acceptRanges", laid_unicode_utf8_acceptRanges), ("path.ErrBadPattern", laid_path_ErrBadPattern), ("unicode/utf8.first", laid_unicode_utf8_first)] }
def FnMatchOnlyBadSaid : Prop := fnMatchOnlyBadRow.holds Tryd.pinned (OpenSpec.ofChange fnMatchOnlyBadSpec)

/-- ITS FALSE NEIGHBOUR: 'it returns false'. Refute it at one input. -/
def fnMatchOnlyBadWrong : ChangeSpec := { name := "fnMatchOnlyBad", fn := fun _ => fun
  | [d] => { results := [.lit (.bool false)], args := [d] }
  | _ => none }
def FnMatchOnlyBadWrongFalsely : Prop := fnMatchOnlyBadRow.holds Tryd.pinned (OpenSpec.ofChange fnMatchOnlyBadWrong)

/-- 'laws.FnExactFails': WHATEVER THE INPUT: true; the input reads as it did. -/
def fnExactFailsSpec : ChangeSpec := { name := "fnExactFails", fn := fun _ => fun
  | [d1, d2] => { results := [.lit (.bool true)], args := [d1, d2] }
  | _ => none }
def fnExactFailsRow : OpenClaim := { program := "ytfmokdgapfbkbaadoor", sum := "7e9217ead10e542d5c8fa6a327ac43538db21785d072bed64f585a2a3c5802dc", func := "loop.example/lib-pathpatterns/laws.FnExactFails", spec := "fnExactFails", inPlace := ["internal/bytealg.IndexByteString"], named := ["unicode/utf8.first", "unicode/utf8.acceptRanges", "path.ErrBadPattern"], apart := false, laid := [("unicode/utf8.acceptRanges", laid_unicode_utf8_acceptRanges), ("path.ErrBadPattern", laid_path_ErrBadPattern), ("unicode/utf8.first", laid_unicode_utf8_first)] }
def FnExactFailsSaid : Prop := fnExactFailsRow.holds Tryd.pinned (OpenSpec.ofChange fnExactFailsSpec)

/-- ITS FALSE NEIGHBOUR: 'it returns false'. Refute it at one input. -/
def fnExactFailsWrong : ChangeSpec := { name := "fnExactFails", fn := fun _ => fun
  | [d1, d2] => { results := [.lit (.bool false)], args := [d1, d2] }
  | _ => none }
def FnExactFailsWrongFalsely : Prop := fnExactFailsRow.holds Tryd.pinned (OpenSpec.ofChange fnExactFailsWrong)

/-- 'laws.FnExactFailsCorner': WHATEVER THE INPUT: true; the input reads as it did. -/
def fnExactFailsCornerSpec : ChangeSpec := { name := "fnExactFailsCorner", fn := fun _ => fun
  | [d1, d2] => { results := [.lit (.bool true)], args := [d1, d2] }
  | _ => none }
def fnExactFailsCornerRow : OpenClaim := { program := "ytfmokdgapfbkbaadoor", sum := "7e9217ead10e542d5c8fa6a327ac43538db21785d072bed64f585a2a3c5802dc", func := "loop.example/lib-pathpatterns/laws.FnExactFailsCorner", spec := "fnExactFailsCorner", inPlace := ["internal/bytealg.IndexByteString"], named := ["unicode/utf8.first", "unicode/utf8.acceptRanges", "path.ErrBadPattern"], apart := false, laid := [("unicode/utf8.acceptRanges", laid_unicode_utf8_acceptRanges), ("path.ErrBadPattern", laid_path_ErrBadPattern), ("unicode/utf8.first", laid_unicode_utf8_first)] }
def FnExactFailsCornerSaid : Prop := fnExactFailsCornerRow.holds Tryd.pinned (OpenSpec.ofChange fnExactFailsCornerSpec)

/-- ITS FALSE NEIGHBOUR: 'it returns false'. Refute it at one input. -/
def fnExactFailsCornerWrong : ChangeSpec := { name := "fnExactFailsCorner", fn := fun _ => fun
  | [d1, d2] => { results := [.lit (.bool false)], args := [d1, d2] }
  | _ => none }
def FnExactFailsCornerWrongFalsely : Prop := fnExactFailsCornerRow.holds Tryd.pinned (OpenSpec.ofChange fnExactFailsCornerWrong)

/-- 'laws.FnMatchBadClosing': WHATEVER THE INPUT: true; the input reads as it did. -/
def fnMatchBadClosingSpec : ChangeSpec := { name := "fnMatchBadClosing", fn := fun _ => fun
  | [d] => { results := [.lit (.bool true)], args := [d] }
  | _ => none }
def fnMatchBadClosingRow : OpenClaim := { program := "ytfmokdgapfbkbaadoor", sum := "7e9217ead10e542d5c8fa6a327ac43538db21785d072bed64f585a2a3c5802dc", func := "loop.example/lib-pathpatterns/laws.FnMatchBadClosing", spec := "fnMatchBadClosing", inPlace := ["internal/bytealg.IndexByteString"], named := ["unicode/utf8.first", "unicode/utf8.acceptRanges", "path.ErrBadPattern"], apart := false, laid := [("unicode/utf8.acceptRanges", laid_unicode_utf8_acceptRanges), ("path.ErrBadPattern", laid_path_ErrBadPattern), ("unicode/utf8.first", laid_unicode_utf8_first)] }
def FnMatchBadClosingSaid : Prop := fnMatchBadClosingRow.holds Tryd.pinned (OpenSpec.ofChange fnMatchBadClosingSpec)

/-- ITS FALSE NEIGHBOUR: 'it returns false'. Refute it at one input. -/
def fnMatchBadClosingWrong : ChangeSpec := { name := "fnMatchBadClosing", fn := fun _ => fun
  | [d] => { results := [.lit (.bool false)], args := [d] }
  | _ => none }
def FnMatchBadClosingWrongFalsely : Prop := fnMatchBadClosingRow.holds Tryd.pinned (OpenSpec.ofChange fnMatchBadClosingWrong)

/-- 'laws.FnAnyMany': WHATEVER THE INPUT: true; the input reads as it did. -/
def fnAnyManySpec : ChangeSpec := { name := "fnAnyMany", fn := fun _ => fun
  | [d] => { results := [.lit (.bool true)], args := [d] }
  | _ => none }
def fnAnyManyRow : OpenClaim := { program := "ytfmokdgapfbkbaadoor", sum := "7e9217ead10e542d5c8fa6a327ac43538db21785d072bed64f585a2a3c5802dc", func := "loop.example/lib-pathpatterns/laws.FnAnyMany", spec := "fnAnyMany", inPlace := ["internal/abi.NoEscape", "internal/bytealg.MakeNoZero", "internal/bytealg.IndexByteString", "internal/reflectlite.TypeOf", "internal/bytealg.IndexString"], unfollowed := true, recurses := true, named := ["unicode/utf8.first", "unicode/utf8.acceptRanges", "path.ErrBadPattern", "internal/bytealg.MaxLen"], apart := false, laid := [("unicode/utf8.acceptRanges", laid_unicode_utf8_acceptRanges), ("path.ErrBadPattern", laid_path_ErrBadPattern), ("unicode/utf8.first", laid_unicode_utf8_first)] }
def FnAnyManySaid : Prop := fnAnyManyRow.holds Tryd.pinned (OpenSpec.ofChange fnAnyManySpec)

/-- ITS FALSE NEIGHBOUR: 'it returns false'. Refute it at one input. -/
def fnAnyManyWrong : ChangeSpec := { name := "fnAnyMany", fn := fun _ => fun
  | [d] => { results := [.lit (.bool false)], args := [d] }
  | _ => none }
def FnAnyManyWrongFalsely : Prop := fnAnyManyRow.holds Tryd.pinned (OpenSpec.ofChange fnAnyManyWrong)

/-- 'laws.FnMatchBadInside': WHATEVER THE INPUT: true; the input reads as it did. -/
def fnMatchBadInsideSpec : ChangeSpec := { name := "fnMatchBadInside", fn := fun _ => fun
  | [d] => { results := [.lit (.bool true)], args := [d] }
  | _ => none }
def fnMatchBadInsideRow : OpenClaim := { program := "ytfmokdgapfbkbaadoor", sum := "7e9217ead10e542d5c8fa6a327ac43538db21785d072bed64f585a2a3c5802dc", func := "loop.example/lib-pathpatterns/laws.FnMatchBadInside", spec := "fnMatchBadInside", inPlace := ["internal/bytealg.IndexByteString"], named := ["unicode/utf8.first", "unicode/utf8.acceptRanges", "path.ErrBadPattern"], apart := false, laid := [("unicode/utf8.acceptRanges", laid_unicode_utf8_acceptRanges), ("path.ErrBadPattern", laid_path_ErrBadPattern), ("unicode/utf8.first", laid_unicode_utf8_first)] }
def FnMatchBadInsideSaid : Prop := fnMatchBadInsideRow.holds Tryd.pinned (OpenSpec.ofChange fnMatchBadInsideSpec)

/-- ITS FALSE NEIGHBOUR: 'it returns false'. Refute it at one input. -/
def fnMatchBadInsideWrong : ChangeSpec := { name := "fnMatchBadInside", fn := fun _ => fun
  | [d] => { results := [.lit (.bool false)], args := [d] }
  | _ => none }
def FnMatchBadInsideWrongFalsely : Prop := fnMatchBadInsideRow.holds Tryd.pinned (OpenSpec.ofChange fnMatchBadInsideWrong)

/- THE SECOND FORM. 'bulk': how many values and letters a reading holds, each counted each time it is reached (what is shared counts as often as it is met; a slice's spare places count too). A statement '..UptoSaid' is the law's where the arguments, and the package variables that the reading takes, are together of bulk at most 1048576: NARROWER than '..Said'. Prove '..Said' where nothing that the law and all that it calls make is longer than what came in: it says more and counts as full. Else prove '..UptoSaid'. A law counts once. -/
mutual
def uptoBulk {H : Type} : DataW H → Nat
  | .lit (.string bytes) => bytes.length + 1
  | .lit _ => 1
  | .nil => 1
  | .ptr d => uptoBulk d + 1
  | .slice elems spare => uptoBulkAll elems + uptoBulkAll spare + 1
  | .agg parts => uptoBulkAll parts + 1
  | .iface _ d => uptoBulk d + 1
  | .map entries => uptoBulkEntries entries + 1
  | .held _ => 1
def uptoBulkAll {H : Type} : List (DataW H) → Nat
  | [] => 0
  | d :: r => uptoBulk d + uptoBulkAll r
def uptoBulkEntries {H : Type} : List (Lit × DataW H) → Nat
  | [] => 0
  | x :: r => uptoBulkEntry x + uptoBulkEntries r
def uptoBulkEntry {H : Type} : Lit × DataW H → Nat
  | (.string bytes, d) => bytes.length + uptoBulk d + 1
  | (_, d) => uptoBulk d + 1
 end
def uptoSmall : (H : Type) → List (DataW H) → Bool := fun _ ds => decide (uptoBulkAll ds ≤ 1048576)
def OpenSpec.upto (s : _root_.Go.ChangeSpec) : _root_.Go.OpenSpec := { _root_.Go.OpenSpec.ofChange s with cond := some uptoSmall }

/-- 'laws.FnBadNameBytes', WHERE WHAT IT READS IS OF BULK AT MOST 1048576: true; the input reads as it did. -/
def fnBadNameBytesUptoRow : OpenClaim := { program := "ytfmokdgapfbkbaadoor", sum := "7e9217ead10e542d5c8fa6a327ac43538db21785d072bed64f585a2a3c5802dc", func := "loop.example/lib-pathpatterns/laws.FnBadNameBytes", spec := "fnBadNameBytes", inPlace := ["internal/bytealg.IndexByteString"], named := ["path.ErrBadPattern", "unicode/utf8.first", "unicode/utf8.acceptRanges"], apart := false, laid := [("unicode/utf8.acceptRanges", laid_unicode_utf8_acceptRanges), ("path.ErrBadPattern", laid_path_ErrBadPattern), ("unicode/utf8.first", laid_unicode_utf8_first)], narrowed := true }
def FnBadNameBytesUptoSaid : Prop := fnBadNameBytesUptoRow.holds Tryd.pinned (OpenSpec.upto fnBadNameBytesSpec)

/-- 'laws.FnExactBase', WHERE WHAT IT READS IS OF BULK AT MOST 1048576: true; the input reads as it did. -/
def fnExactBaseUptoRow : OpenClaim := { program := "ytfmokdgapfbkbaadoor", sum := "7e9217ead10e542d5c8fa6a327ac43538db21785d072bed64f585a2a3c5802dc", func := "loop.example/lib-pathpatterns/laws.FnExactBase", spec := "fnExactBase", inPlace := ["internal/bytealg.IndexByteString", "internal/bytealg.IndexString"], named := ["unicode/utf8.first", "unicode/utf8.acceptRanges", "internal/bytealg.MaxLen"], apart := false, laid := [("unicode/utf8.acceptRanges", laid_unicode_utf8_acceptRanges), ("unicode/utf8.first", laid_unicode_utf8_first)], narrowed := true }
def FnExactBaseUptoSaid : Prop := fnExactBaseUptoRow.holds Tryd.pinned (OpenSpec.upto fnExactBaseSpec)

/-- 'laws.FnMatchBadFalse', WHERE WHAT IT READS IS OF BULK AT MOST 1048576: true; the input reads as it did. -/
def fnMatchBadFalseUptoRow : OpenClaim := { program := "ytfmokdgapfbkbaadoor", sum := "7e9217ead10e542d5c8fa6a327ac43538db21785d072bed64f585a2a3c5802dc", func := "loop.example/lib-pathpatterns/laws.FnMatchBadFalse", spec := "fnMatchBadFalse", inPlace := ["internal/bytealg.IndexByteString", "internal/reflectlite.TypeOf"], unfollowed := true, recurses := true, named := ["path.ErrBadPattern", "unicode/utf8.first", "unicode/utf8.acceptRanges"], apart := false, laid := [("unicode/utf8.acceptRanges", laid_unicode_utf8_acceptRanges), ("path.ErrBadPattern", laid_path_ErrBadPattern), ("unicode/utf8.first", laid_unicode_utf8_first)], narrowed := true }
def FnMatchBadFalseUptoSaid : Prop := fnMatchBadFalseUptoRow.holds Tryd.pinned (OpenSpec.upto fnMatchBadFalseSpec)

/-- 'laws.FnPlainBytes', WHERE WHAT IT READS IS OF BULK AT MOST 1048576: true; the input reads as it did. -/
def fnPlainBytesUptoRow : OpenClaim := { program := "ytfmokdgapfbkbaadoor", sum := "7e9217ead10e542d5c8fa6a327ac43538db21785d072bed64f585a2a3c5802dc", func := "loop.example/lib-pathpatterns/laws.FnPlainBytes", spec := "fnPlainBytes", inPlace := ["internal/bytealg.IndexByteString", "internal/reflectlite.TypeOf"], unfollowed := true, recurses := true, named := ["path.ErrBadPattern", "unicode/utf8.first", "unicode/utf8.acceptRanges"], apart := false, laid := [("unicode/utf8.acceptRanges", laid_unicode_utf8_acceptRanges), ("path.ErrBadPattern", laid_path_ErrBadPattern), ("unicode/utf8.first", laid_unicode_utf8_first)], narrowed := true }
def FnPlainBytesUptoSaid : Prop := fnPlainBytesUptoRow.holds Tryd.pinned (OpenSpec.upto fnPlainBytesSpec)

/-- 'laws.FnQuoteBytes', WHERE WHAT IT READS IS OF BULK AT MOST 1048576: true; the input reads as it did. -/
def fnQuoteBytesUptoRow : OpenClaim := { program := "ytfmokdgapfbkbaadoor", sum := "7e9217ead10e542d5c8fa6a327ac43538db21785d072bed64f585a2a3c5802dc", func := "loop.example/lib-pathpatterns/laws.FnQuoteBytes", spec := "fnQuoteBytes", inPlace := ["internal/bytealg.IndexByteString", "internal/reflectlite.TypeOf"], unfollowed := true, recurses := true, named := ["path.ErrBadPattern", "unicode/utf8.first", "unicode/utf8.acceptRanges"], apart := false, laid := [("unicode/utf8.acceptRanges", laid_unicode_utf8_acceptRanges), ("path.ErrBadPattern", laid_path_ErrBadPattern), ("unicode/utf8.first", laid_unicode_utf8_first)], narrowed := true }
def FnQuoteBytesUptoSaid : Prop := fnQuoteBytesUptoRow.holds Tryd.pinned (OpenSpec.upto fnQuoteBytesSpec)

/-- 'laws.FnMatchOnlyBad', WHERE WHAT IT READS IS OF BULK AT MOST 1048576: true; the input reads as it did. -/
def fnMatchOnlyBadUptoRow : OpenClaim := { program := "ytfmokdgapfbkbaadoor", sum := "7e9217ead10e542d5c8fa6a327ac43538db21785d072bed64f585a2a3c5802dc", func := "loop.example/lib-pathpatterns/laws.FnMatchOnlyBad", spec := "fnMatchOnlyBad", inPlace := ["internal/bytealg.IndexByteString", "internal/reflectlite.TypeOf"], unfollowed := true, recurses := true, named := ["path.ErrBadPattern", "unicode/utf8.first", "unicode/utf8.acceptRanges"], apart := false, laid := [("unicode/utf8.acceptRanges", laid_unicode_utf8_acceptRanges), ("path.ErrBadPattern", laid_path_ErrBadPattern), ("unicode/utf8.first", laid_unicode_utf8_first)], narrowed := true }
def FnMatchOnlyBadUptoSaid : Prop := fnMatchOnlyBadUptoRow.holds Tryd.pinned (OpenSpec.upto fnMatchOnlyBadSpec)

/-- 'laws.FnExactFails', WHERE WHAT IT READS IS OF BULK AT MOST 1048576: true; the input reads as it did. -/
def fnExactFailsUptoRow : OpenClaim := { program := "ytfmokdgapfbkbaadoor", sum := "7e9217ead10e542d5c8fa6a327ac43538db21785d072bed64f585a2a3c5802dc", func := "loop.example/lib-pathpatterns/laws.FnExactFails", spec := "fnExactFails", inPlace := ["internal/bytealg.IndexByteString"], named := ["unicode/utf8.first", "unicode/utf8.acceptRanges", "path.ErrBadPattern"], apart := false, laid := [("unicode/utf8.acceptRanges", laid_unicode_utf8_acceptRanges), ("path.ErrBadPattern", laid_path_ErrBadPattern), ("unicode/utf8.first", laid_unicode_utf8_first)], narrowed := true }
def FnExactFailsUptoSaid : Prop := fnExactFailsUptoRow.holds Tryd.pinned (OpenSpec.upto fnExactFailsSpec)

/-- 'laws.FnExactFailsCorner', WHERE WHAT IT READS IS OF BULK AT MOST 1048576: true; the input reads as it did. -/
def fnExactFailsCornerUptoRow : OpenClaim := { program := "ytfmokdgapfbkbaadoor", sum := "7e9217ead10e542d5c8fa6a327ac43538db21785d072bed64f585a2a3c5802dc", func := "loop.example/lib-pathpatterns/laws.FnExactFailsCorner", spec := "fnExactFailsCorner", inPlace := ["internal/bytealg.IndexByteString"], named := ["unicode/utf8.first", "unicode/utf8.acceptRanges", "path.ErrBadPattern"], apart := false, laid := [("unicode/utf8.acceptRanges", laid_unicode_utf8_acceptRanges), ("path.ErrBadPattern", laid_path_ErrBadPattern), ("unicode/utf8.first", laid_unicode_utf8_first)], narrowed := true }
def FnExactFailsCornerUptoSaid : Prop := fnExactFailsCornerUptoRow.holds Tryd.pinned (OpenSpec.upto fnExactFailsCornerSpec)

/-- 'laws.FnMatchBadClosing', WHERE WHAT IT READS IS OF BULK AT MOST 1048576: true; the input reads as it did. -/
def fnMatchBadClosingUptoRow : OpenClaim := { program := "ytfmokdgapfbkbaadoor", sum := "7e9217ead10e542d5c8fa6a327ac43538db21785d072bed64f585a2a3c5802dc", func := "loop.example/lib-pathpatterns/laws.FnMatchBadClosing", spec := "fnMatchBadClosing", inPlace := ["internal/bytealg.IndexByteString"], named := ["unicode/utf8.first", "unicode/utf8.acceptRanges", "path.ErrBadPattern"], apart := false, laid := [("unicode/utf8.acceptRanges", laid_unicode_utf8_acceptRanges), ("path.ErrBadPattern", laid_path_ErrBadPattern), ("unicode/utf8.first", laid_unicode_utf8_first)], narrowed := true }
def FnMatchBadClosingUptoSaid : Prop := fnMatchBadClosingUptoRow.holds Tryd.pinned (OpenSpec.upto fnMatchBadClosingSpec)

/-- 'laws.FnAnyMany', WHERE WHAT IT READS IS OF BULK AT MOST 1048576: true; the input reads as it did. -/
def fnAnyManyUptoRow : OpenClaim := { program := "ytfmokdgapfbkbaadoor", sum := "7e9217ead10e542d5c8fa6a327ac43538db21785d072bed64f585a2a3c5802dc", func := "loop.example/lib-pathpatterns/laws.FnAnyMany", spec := "fnAnyMany", inPlace := ["internal/abi.NoEscape", "internal/bytealg.MakeNoZero", "internal/bytealg.IndexByteString", "internal/reflectlite.TypeOf", "internal/bytealg.IndexString"], unfollowed := true, recurses := true, named := ["unicode/utf8.first", "unicode/utf8.acceptRanges", "path.ErrBadPattern", "internal/bytealg.MaxLen"], apart := false, laid := [("unicode/utf8.acceptRanges", laid_unicode_utf8_acceptRanges), ("path.ErrBadPattern", laid_path_ErrBadPattern), ("unicode/utf8.first", laid_unicode_utf8_first)], narrowed := true }
def FnAnyManyUptoSaid : Prop := fnAnyManyUptoRow.holds Tryd.pinned (OpenSpec.upto fnAnyManySpec)

/-- 'laws.FnMatchBadInside', WHERE WHAT IT READS IS OF BULK AT MOST 1048576: true; the input reads as it did. -/
def fnMatchBadInsideUptoRow : OpenClaim := { program := "ytfmokdgapfbkbaadoor", sum := "7e9217ead10e542d5c8fa6a327ac43538db21785d072bed64f585a2a3c5802dc", func := "loop.example/lib-pathpatterns/laws.FnMatchBadInside", spec := "fnMatchBadInside", inPlace := ["internal/bytealg.IndexByteString"], named := ["unicode/utf8.first", "unicode/utf8.acceptRanges", "path.ErrBadPattern"], apart := false, laid := [("unicode/utf8.acceptRanges", laid_unicode_utf8_acceptRanges), ("path.ErrBadPattern", laid_path_ErrBadPattern), ("unicode/utf8.first", laid_unicode_utf8_first)], narrowed := true }
def FnMatchBadInsideUptoSaid : Prop := fnMatchBadInsideUptoRow.holds Tryd.pinned (OpenSpec.upto fnMatchBadInsideSpec)

end Rows
end Go.Proofs.YtfmokdgapfbkbaaDoor

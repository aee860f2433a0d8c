/-
  NARROWER THAN 'FOR EVERY INPUT', by the rows' own cells (each row's printed sentence says how): FnAnyHead: laid · FnAnyTail: laid · FnClassAll: laid · FnConcat: laid · FnOneStar: laid · FnSlashNone: laid · FnSlashNoneBytes: laid · FnStarAlone: laid · FnStarEmpty: laid · FnStarHead: laid · FnStarOne: laid · FnQuoteTail: laid.
  DERIVED. THE GIVEN ROWS OF THIS SEAT. 12 by the template 'for every input the law returns true; each argument reads behind the call as it read before'; 0 by the template 'total and deterministic' (their statements: YtefkgdbmndhebaaDoorTotals.lean).
  GIVEN WITH THE SEED: the statements are not yours to turn. If you find one false, say at which input.
  Laid BY PROGRAM, IN A SANDBOX (cutbox-rows.mjs): the forced cells as the released guide's own fill.sh prints them over the translation f1054cd6302b3e8e… (all of the seat's roots in one cut). By AI agents, Wed Nov 11 2026. No macro, syntax, notation, axiom, sorry.
-/
import Derived.Test.YtefkgdbmndhebaaDoorChecked
import GoSem.PinnedTables
import GoSem.Claim
import GoSem.ClaimJoined
import GoSem.ClaimMapViews
import Derived.JoinedTies
import Derived.KernelRfl
namespace Go.Proofs.YtefkgdbmndhebaaDoor
/- THE CELL 'sum', in the pinned program and in every row, IS THE sha256 OF THE DUMP (.gsa) THAT YtefkgdbmndhebaaDoorProg.lean LOADS. Nothing in Lean hashes anything: it is a label: what it is worth is what the hold of that sum in a sandbox is worth. -/
noncomputable def Tryd.pinned : Pinned := { name := "ytefkgdbmndhebaadoor", sum := "f1054cd6302b3e8e2f1d0454c2ffdc18943b0e36ccfd9dbbd6278299bfbb6973", checked := Tryd.checked }
namespace Rows
def none {H : Type} : Left H := { results := [], args := [] }

/- WHAT THE LISTED PACKAGE-LEVEL VARIABLES READ AS WHEN THE CALL BEGINS. Each datum BY PROGRAM (the guide's laid-datum.mjs) off the statement by which the dump's own 'gosem.cut.vars' lays the variable. In a bare row this is a premise. The card (YtefkgdbmndhebaaDoorCards.lean) ties it to the program's text. -/
def laid_unicode_utf8_acceptRanges {H : Type} : DataW H := .agg [.agg [.lit (.int .u8 128), .lit (.int .u8 191)], .agg [.lit (.int .u8 160), .lit (.int .u8 191)], .agg [.lit (.int .u8 128), .lit (.int .u8 159)], .agg [.lit (.int .u8 144), .lit (.int .u8 191)], .agg [.lit (.int .u8 128), .lit (.int .u8 143)], .agg [.lit (.int .u8 0), .lit (.int .u8 0)], .agg [.lit (.int .u8 0), .lit (.int .u8 0)], .agg [.lit (.int .u8 0), .lit (.int .u8 0)], .agg [.lit (.int .u8 0), .lit (.int .u8 0)], .agg [.lit (.int .u8 0), .lit (.int .u8 0)], .agg [.lit (.int .u8 0), .lit (.int .u8 0)], .agg [.lit (.int .u8 0), .lit (.int .u8 0)], .agg [.lit (.int .u8 0), .lit (.int .u8 0)], .agg [.lit (.int .u8 0), .lit (.int .u8 0)], .agg [.lit (.int .u8 0), .lit (.int .u8 0)], .agg [.lit (.int .u8 0), .lit (.int .u8 0)]]
def laid_path_ErrBadPattern {H : Type} : DataW H := .iface "*errors.errorString" (.ptr (.agg [.lit (.string [115, 121, 110, 116, 97, 120, 32, 101, 114, 114, 111, 114, 32, 105, 110, 32, 112, 97, 116, 116, 101, 114, 110])]))
/-- One of Go's own tables, pinned by name: the form's constant. -/
def laid_unicode_utf8_first : DataW Unit := Go.Pinned.utf8First

/-- 'laws.FnAnyHead': WHATEVER THE INPUT: true; the input reads as it did. -/
def fnAnyHeadSpec : ChangeSpec := { name := "fnAnyHead", fn := fun _ => fun
  | [d] => { results := [.lit (.bool true)], args := [d] }
  | _ => none }
def fnAnyHeadRow : OpenClaim := { program := "ytefkgdbmndhebaadoor", sum := "f1054cd6302b3e8e2f1d0454c2ffdc18943b0e36ccfd9dbbd6278299bfbb6973", func := "loop.example/lib-pathpatterns/laws.FnAnyHead", spec := "fnAnyHead", inPlace := ["internal/bytealg.IndexByteString", "internal/reflectlite.TypeOf"], unfollowed := true, recurses := true, named := ["path.ErrBadPattern", "unicode/utf8.first", "unicode/utf8.acceptRanges"], apart := false, laid := [("unicode/utf8.acceptRanges", laid_unicode_utf8_acceptRanges), ("path.ErrBadPattern", laid_path_ErrBadPattern), ("unicode/utf8.first", laid_unicode_utf8_first)] }
def FnAnyHeadSaid : Prop := fnAnyHeadRow.holds Tryd.pinned (OpenSpec.ofChange fnAnyHeadSpec)

/-- ITS FALSE NEIGHBOUR: 'it returns false'. Refute it at one input. -/
def fnAnyHeadWrong : ChangeSpec := { name := "fnAnyHead", fn := fun _ => fun
  | [d] => { results := [.lit (.bool false)], args := [d] }
  | _ => none }
def FnAnyHeadWrongFalsely : Prop := fnAnyHeadRow.holds Tryd.pinned (OpenSpec.ofChange fnAnyHeadWrong)

/-- 'laws.FnAnyTail': WHATEVER THE INPUT: true; the input reads as it did. -/
def fnAnyTailSpec : ChangeSpec := { name := "fnAnyTail", fn := fun _ => fun
  | [d] => { results := [.lit (.bool true)], args := [d] }
  | _ => none }
def fnAnyTailRow : OpenClaim := { program := "ytefkgdbmndhebaadoor", sum := "f1054cd6302b3e8e2f1d0454c2ffdc18943b0e36ccfd9dbbd6278299bfbb6973", func := "loop.example/lib-pathpatterns/laws.FnAnyTail", spec := "fnAnyTail", inPlace := ["internal/bytealg.IndexByteString", "internal/reflectlite.TypeOf", "internal/bytealg.IndexString"], unfollowed := true, recurses := true, named := ["path.ErrBadPattern", "unicode/utf8.first", "unicode/utf8.acceptRanges", "internal/bytealg.MaxLen"], apart := false, laid := [("unicode/utf8.acceptRanges", laid_unicode_utf8_acceptRanges), ("path.ErrBadPattern", laid_path_ErrBadPattern), ("unicode/utf8.first", laid_unicode_utf8_first)] }
def FnAnyTailSaid : Prop := fnAnyTailRow.holds Tryd.pinned (OpenSpec.ofChange fnAnyTailSpec)

/-- ITS FALSE NEIGHBOUR: 'it returns false'. Refute it at one input. -/
def fnAnyTailWrong : ChangeSpec := { name := "fnAnyTail", fn := fun _ => fun
  | [d] => { results := [.lit (.bool false)], args := [d] }
  | _ => none }
def FnAnyTailWrongFalsely : Prop := fnAnyTailRow.holds Tryd.pinned (OpenSpec.ofChange fnAnyTailWrong)

/-- 'laws.FnClassAll': WHATEVER THE INPUT: true; the input reads as it did. -/
def fnClassAllSpec : ChangeSpec := { name := "fnClassAll", fn := fun _ => fun
  | [d] => { results := [.lit (.bool true)], args := [d] }
  | _ => none }
def fnClassAllRow : OpenClaim := { program := "ytefkgdbmndhebaadoor", sum := "f1054cd6302b3e8e2f1d0454c2ffdc18943b0e36ccfd9dbbd6278299bfbb6973", func := "loop.example/lib-pathpatterns/laws.FnClassAll", spec := "fnClassAll", inPlace := ["internal/bytealg.IndexByteString", "internal/reflectlite.TypeOf", "internal/bytealg.IndexString"], unfollowed := true, recurses := true, named := ["path.ErrBadPattern", "unicode/utf8.first", "unicode/utf8.acceptRanges", "internal/bytealg.MaxLen"], apart := false, laid := [("unicode/utf8.acceptRanges", laid_unicode_utf8_acceptRanges), ("path.ErrBadPattern", laid_path_ErrBadPattern), ("unicode/utf8.first", laid_unicode_utf8_first)] }
def FnClassAllSaid : Prop := fnClassAllRow.holds Tryd.pinned (OpenSpec.ofChange fnClassAllSpec)

/-- ITS FALSE NEIGHBOUR: 'it returns false'. Refute it at one input. -/
def fnClassAllWrong : ChangeSpec := { name := "fnClassAll", fn := fun _ => fun
  | [d] => { results := [.lit (.bool false)], args := [d] }
  | _ => none }
def FnClassAllWrongFalsely : Prop := fnClassAllRow.holds Tryd.pinned (OpenSpec.ofChange fnClassAllWrong)

/-- 'laws.FnConcat': WHATEVER THE INPUT: true; the input reads as it did. -/
def fnConcatSpec : ChangeSpec := { name := "fnConcat", fn := fun _ => fun
  | [d] => { results := [.lit (.bool true)], args := [d] }
  | _ => none }
def fnConcatRow : OpenClaim := { program := "ytefkgdbmndhebaadoor", sum := "f1054cd6302b3e8e2f1d0454c2ffdc18943b0e36ccfd9dbbd6278299bfbb6973", func := "loop.example/lib-pathpatterns/laws.FnConcat", spec := "fnConcat", inPlace := ["internal/bytealg.IndexByteString", "internal/reflectlite.TypeOf", "internal/bytealg.IndexString"], unfollowed := true, recurses := true, named := ["path.ErrBadPattern", "unicode/utf8.first", "unicode/utf8.acceptRanges", "internal/bytealg.MaxLen"], apart := false, laid := [("unicode/utf8.acceptRanges", laid_unicode_utf8_acceptRanges), ("path.ErrBadPattern", laid_path_ErrBadPattern), ("unicode/utf8.first", laid_unicode_utf8_first)] }
def FnConcatSaid : Prop := fnConcatRow.holds Tryd.pinned (OpenSpec.ofChange fnConcatSpec)

/-- ITS FALSE NEIGHBOUR: 'it returns false'. Refute it at one input. -/
def fnConcatWrong : ChangeSpec := { name := "fnConcat", fn := fun _ => fun
  | [d] => { results := [.lit (.bool false)], args := [d] }
  | _ => none }
def FnConcatWrongFalsely : Prop := fnConcatRow.holds Tryd.pinned (OpenSpec.ofChange fnConcatWrong)

/-- 'laws.FnOneStar': WHATEVER THE INPUT: true; the input reads as it did. -/
def fnOneStarSpec : ChangeSpec := { name := "fnOneStar", fn := fun _ => fun
  | [d] => { results := [.lit (.bool true)], args := [d] }
  | _ => none }
def fnOneStarRow : OpenClaim := { program := "ytefkgdbmndhebaadoor", sum := "f1054cd6302b3e8e2f1d0454c2ffdc18943b0e36ccfd9dbbd6278299bfbb6973", func := "loop.example/lib-pathpatterns/laws.FnOneStar", spec := "fnOneStar", inPlace := ["internal/bytealg.IndexByteString", "internal/reflectlite.TypeOf", "internal/bytealg.IndexString"], unfollowed := true, recurses := true, named := ["path.ErrBadPattern", "unicode/utf8.first", "unicode/utf8.acceptRanges", "internal/bytealg.MaxLen"], apart := false, laid := [("unicode/utf8.acceptRanges", laid_unicode_utf8_acceptRanges), ("path.ErrBadPattern", laid_path_ErrBadPattern), ("unicode/utf8.first", laid_unicode_utf8_first)] }
def FnOneStarSaid : Prop := fnOneStarRow.holds Tryd.pinned (OpenSpec.ofChange fnOneStarSpec)

/-- ITS FALSE NEIGHBOUR: 'it returns false'. Refute it at one input. -/
def fnOneStarWrong : ChangeSpec := { name := "fnOneStar", fn := fun _ => fun
  | [d] => { results := [.lit (.bool false)], args := [d] }
  | _ => none }
def FnOneStarWrongFalsely : Prop := fnOneStarRow.holds Tryd.pinned (OpenSpec.ofChange fnOneStarWrong)

/-- 'laws.FnSlashNone': WHATEVER THE INPUT: true; the input reads as it did. -/
def fnSlashNoneSpec : ChangeSpec := { name := "fnSlashNone", fn := fun _ => fun
  | [d] => { results := [.lit (.bool true)], args := [d] }
  | _ => none }
def fnSlashNoneRow : OpenClaim := { program := "ytefkgdbmndhebaadoor", sum := "f1054cd6302b3e8e2f1d0454c2ffdc18943b0e36ccfd9dbbd6278299bfbb6973", func := "loop.example/lib-pathpatterns/laws.FnSlashNone", spec := "fnSlashNone", inPlace := ["internal/bytealg.IndexByteString", "internal/reflectlite.TypeOf", "internal/bytealg.IndexString"], unfollowed := true, recurses := true, named := ["path.ErrBadPattern", "unicode/utf8.first", "unicode/utf8.acceptRanges", "internal/bytealg.MaxLen"], apart := false, laid := [("unicode/utf8.acceptRanges", laid_unicode_utf8_acceptRanges), ("path.ErrBadPattern", laid_path_ErrBadPattern), ("unicode/utf8.first", laid_unicode_utf8_first)] }
def FnSlashNoneSaid : Prop := fnSlashNoneRow.holds Tryd.pinned (OpenSpec.ofChange fnSlashNoneSpec)

/-- ITS FALSE NEIGHBOUR: 'it returns false'. Refute it at one input. -/
def fnSlashNoneWrong : ChangeSpec := { name := "fnSlashNone", fn := fun _ => fun
  | [d] => { results := [.lit (.bool false)], args := [d] }
  | _ => none }
def FnSlashNoneWrongFalsely : Prop := fnSlashNoneRow.holds Tryd.pinned (OpenSpec.ofChange fnSlashNoneWrong)

/-- 'laws.FnSlashNoneBytes': WHATEVER THE INPUT: true; the input reads as it did. -/
def fnSlashNoneBytesSpec : ChangeSpec := { name := "fnSlashNoneBytes", fn := fun _ => fun
  | [d] => { results := [.lit (.bool true)], args := [d] }
  | _ => none }
def fnSlashNoneBytesRow : OpenClaim := { program := "ytefkgdbmndhebaadoor", sum := "f1054cd6302b3e8e2f1d0454c2ffdc18943b0e36ccfd9dbbd6278299bfbb6973", func := "loop.example/lib-pathpatterns/laws.FnSlashNoneBytes", spec := "fnSlashNoneBytes", inPlace := ["internal/bytealg.IndexByteString", "internal/reflectlite.TypeOf", "internal/bytealg.IndexString"], unfollowed := true, recurses := true, named := ["path.ErrBadPattern", "unicode/utf8.first", "unicode/utf8.acceptRanges", "internal/bytealg.MaxLen"], apart := false, laid := [("unicode/utf8.acceptRanges", laid_unicode_utf8_acceptRanges), ("path.ErrBadPattern", laid_path_ErrBadPattern), ("unicode/utf8.first", laid_unicode_utf8_first)] }
def FnSlashNoneBytesSaid : Prop := fnSlashNoneBytesRow.holds Tryd.pinned (OpenSpec.ofChange fnSlashNoneBytesSpec)

/-- ITS FALSE NEIGHBOUR: 'it returns false'. Refute it at one input. -/
def fnSlashNoneBytesWrong : ChangeSpec := { name := "fnSlashNoneBytes", fn := fun _ => fun
  | [d] => { results := [.lit (.bool false)], args := [d] }
  | _ => none }
def FnSlashNoneBytesWrongFalsely : Prop := fnSlashNoneBytesRow.holds Tryd.pinned (OpenSpec.ofChange fnSlashNoneBytesWrong)

/-- 'laws.FnStarAlone': WHATEVER THE INPUT: true; the input reads as it did. -/
def fnStarAloneSpec : ChangeSpec := { name := "fnStarAlone", fn := fun _ => fun
  | [d] => { results := [.lit (.bool true)], args := [d] }
  | _ => none }
def fnStarAloneRow : OpenClaim := { program := "ytefkgdbmndhebaadoor", sum := "f1054cd6302b3e8e2f1d0454c2ffdc18943b0e36ccfd9dbbd6278299bfbb6973", func := "loop.example/lib-pathpatterns/laws.FnStarAlone", spec := "fnStarAlone", inPlace := ["internal/bytealg.IndexByteString", "internal/reflectlite.TypeOf", "internal/bytealg.IndexString"], unfollowed := true, recurses := true, named := ["unicode/utf8.first", "unicode/utf8.acceptRanges", "path.ErrBadPattern", "internal/bytealg.MaxLen"], apart := false, laid := [("unicode/utf8.acceptRanges", laid_unicode_utf8_acceptRanges), ("path.ErrBadPattern", laid_path_ErrBadPattern), ("unicode/utf8.first", laid_unicode_utf8_first)] }
def FnStarAloneSaid : Prop := fnStarAloneRow.holds Tryd.pinned (OpenSpec.ofChange fnStarAloneSpec)

/-- ITS FALSE NEIGHBOUR: 'it returns false'. Refute it at one input. -/
def fnStarAloneWrong : ChangeSpec := { name := "fnStarAlone", fn := fun _ => fun
  | [d] => { results := [.lit (.bool false)], args := [d] }
  | _ => none }
def FnStarAloneWrongFalsely : Prop := fnStarAloneRow.holds Tryd.pinned (OpenSpec.ofChange fnStarAloneWrong)

/-- 'laws.FnStarEmpty': WHATEVER THE INPUT: true; the input reads as it did. -/
def fnStarEmptySpec : ChangeSpec := { name := "fnStarEmpty", fn := fun _ => fun
  | [d] => { results := [.lit (.bool true)], args := [d] }
  | _ => none }
def fnStarEmptyRow : OpenClaim := { program := "ytefkgdbmndhebaadoor", sum := "f1054cd6302b3e8e2f1d0454c2ffdc18943b0e36ccfd9dbbd6278299bfbb6973", func := "loop.example/lib-pathpatterns/laws.FnStarEmpty", spec := "fnStarEmpty", inPlace := ["internal/bytealg.IndexByteString", "internal/reflectlite.TypeOf", "internal/bytealg.IndexString"], unfollowed := true, recurses := true, named := ["path.ErrBadPattern", "unicode/utf8.first", "unicode/utf8.acceptRanges", "internal/bytealg.MaxLen"], apart := false, laid := [("unicode/utf8.acceptRanges", laid_unicode_utf8_acceptRanges), ("path.ErrBadPattern", laid_path_ErrBadPattern), ("unicode/utf8.first", laid_unicode_utf8_first)] }
def FnStarEmptySaid : Prop := fnStarEmptyRow.holds Tryd.pinned (OpenSpec.ofChange fnStarEmptySpec)

/-- ITS FALSE NEIGHBOUR: 'it returns false'. Refute it at one input. -/
def fnStarEmptyWrong : ChangeSpec := { name := "fnStarEmpty", fn := fun _ => fun
  | [d] => { results := [.lit (.bool false)], args := [d] }
  | _ => none }
def FnStarEmptyWrongFalsely : Prop := fnStarEmptyRow.holds Tryd.pinned (OpenSpec.ofChange fnStarEmptyWrong)

/-- 'laws.FnStarHead': WHATEVER THE INPUT: true; the input reads as it did. -/
def fnStarHeadSpec : ChangeSpec := { name := "fnStarHead", fn := fun _ => fun
  | [d] => { results := [.lit (.bool true)], args := [d] }
  | _ => none }
def fnStarHeadRow : OpenClaim := { program := "ytefkgdbmndhebaadoor", sum := "f1054cd6302b3e8e2f1d0454c2ffdc18943b0e36ccfd9dbbd6278299bfbb6973", func := "loop.example/lib-pathpatterns/laws.FnStarHead", spec := "fnStarHead", inPlace := ["internal/bytealg.IndexByteString", "internal/reflectlite.TypeOf", "internal/bytealg.IndexString"], unfollowed := true, recurses := true, named := ["path.ErrBadPattern", "unicode/utf8.first", "unicode/utf8.acceptRanges", "internal/bytealg.MaxLen"], apart := false, laid := [("unicode/utf8.acceptRanges", laid_unicode_utf8_acceptRanges), ("path.ErrBadPattern", laid_path_ErrBadPattern), ("unicode/utf8.first", laid_unicode_utf8_first)] }
def FnStarHeadSaid : Prop := fnStarHeadRow.holds Tryd.pinned (OpenSpec.ofChange fnStarHeadSpec)

/-- ITS FALSE NEIGHBOUR: 'it returns false'. Refute it at one input. -/
def fnStarHeadWrong : ChangeSpec := { name := "fnStarHead", fn := fun _ => fun
  | [d] => { results := [.lit (.bool false)], args := [d] }
  | _ => none }
def FnStarHeadWrongFalsely : Prop := fnStarHeadRow.holds Tryd.pinned (OpenSpec.ofChange fnStarHeadWrong)

/-- 'laws.FnStarOne': WHATEVER THE INPUT: true; the input reads as it did. -/
def fnStarOneSpec : ChangeSpec := { name := "fnStarOne", fn := fun _ => fun
  | [d] => { results := [.lit (.bool true)], args := [d] }
  | _ => none }
def fnStarOneRow : OpenClaim := { program := "ytefkgdbmndhebaadoor", sum := "f1054cd6302b3e8e2f1d0454c2ffdc18943b0e36ccfd9dbbd6278299bfbb6973", func := "loop.example/lib-pathpatterns/laws.FnStarOne", spec := "fnStarOne", inPlace := ["internal/bytealg.IndexByteString", "internal/reflectlite.TypeOf", "internal/bytealg.IndexString"], unfollowed := true, recurses := true, named := ["path.ErrBadPattern", "unicode/utf8.first", "unicode/utf8.acceptRanges", "internal/bytealg.MaxLen"], apart := false, laid := [("unicode/utf8.acceptRanges", laid_unicode_utf8_acceptRanges), ("path.ErrBadPattern", laid_path_ErrBadPattern), ("unicode/utf8.first", laid_unicode_utf8_first)] }
def FnStarOneSaid : Prop := fnStarOneRow.holds Tryd.pinned (OpenSpec.ofChange fnStarOneSpec)

/-- ITS FALSE NEIGHBOUR: 'it returns false'. Refute it at one input. -/
def fnStarOneWrong : ChangeSpec := { name := "fnStarOne", fn := fun _ => fun
  | [d] => { results := [.lit (.bool false)], args := [d] }
  | _ => none }
def FnStarOneWrongFalsely : Prop := fnStarOneRow.holds Tryd.pinned (OpenSpec.ofChange fnStarOneWrong)

/-- 'laws.FnQuoteTail': WHATEVER THE INPUT: true; the input reads as it did. -/
def fnQuoteTailSpec : ChangeSpec := { name := "fnQuoteTail", fn := fun _ => fun
  | [d] => { results := [.lit (.bool true)], args := [d] }
  | _ => none }
def fnQuoteTailRow : OpenClaim := { program := "ytefkgdbmndhebaadoor", sum := "f1054cd6302b3e8e2f1d0454c2ffdc18943b0e36ccfd9dbbd6278299bfbb6973", func := "loop.example/lib-pathpatterns/laws.FnQuoteTail", spec := "fnQuoteTail", inPlace := ["internal/bytealg.IndexByteString", "internal/reflectlite.TypeOf", "internal/bytealg.IndexString"], unfollowed := true, recurses := true, named := ["path.ErrBadPattern", "unicode/utf8.first", "unicode/utf8.acceptRanges", "internal/bytealg.MaxLen"], apart := false, laid := [("unicode/utf8.acceptRanges", laid_unicode_utf8_acceptRanges), ("path.ErrBadPattern", laid_path_ErrBadPattern), ("unicode/utf8.first", laid_unicode_utf8_first)] }
def FnQuoteTailSaid : Prop := fnQuoteTailRow.holds Tryd.pinned (OpenSpec.ofChange fnQuoteTailSpec)

/-- ITS FALSE NEIGHBOUR: 'it returns false'. Refute it at one input. -/
def fnQuoteTailWrong : ChangeSpec := { name := "fnQuoteTail", fn := fun _ => fun
  | [d] => { results := [.lit (.bool false)], args := [d] }
  | _ => none }
def FnQuoteTailWrongFalsely : Prop := fnQuoteTailRow.holds Tryd.pinned (OpenSpec.ofChange fnQuoteTailWrong)

/- THE SECOND FORM. 'bulk': how many values and letters a reading holds, each counted each time it is reached (what is shared counts as often as it is met; a slice's spare places count too). A statement '..UptoSaid' is the law's where the arguments, and the package variables that the reading takes, are together of bulk at most 1048576: NARROWER than '..Said'. Prove '..Said' where nothing that the law and all that it calls make is longer than what came in: it says more and counts as full. Else prove '..UptoSaid'. A law counts once. -/
mutual
def uptoBulk {H : Type} : DataW H → Nat
  | .lit (.string bytes) => bytes.length + 1
  | .lit _ => 1
  | .nil => 1
  | .ptr d => uptoBulk d + 1
  | .slice elems spare => uptoBulkAll elems + uptoBulkAll spare + 1
  | .agg parts => uptoBulkAll parts + 1
  | .iface _ d => uptoBulk d + 1
  | .map entries => uptoBulkEntries entries + 1
  | .held _ => 1
def uptoBulkAll {H : Type} : List (DataW H) → Nat
  | [] => 0
  | d :: r => uptoBulk d + uptoBulkAll r
def uptoBulkEntries {H : Type} : List (Lit × DataW H) → Nat
  | [] => 0
  | x :: r => uptoBulkEntry x + uptoBulkEntries r
def uptoBulkEntry {H : Type} : Lit × DataW H → Nat
  | (.string bytes, d) => bytes.length + uptoBulk d + 1
  | (_, d) => uptoBulk d + 1
 end
def uptoSmall : (H : Type) → List (DataW H) → Bool := fun _ ds => decide (uptoBulkAll ds ≤ 1048576)
def OpenSpec.upto (s : _root_.Go.ChangeSpec) : _root_.Go.OpenSpec := { _root_.Go.OpenSpec.ofChange s with cond := some uptoSmall }

/-- 'laws.FnAnyHead', WHERE WHAT IT READS IS OF BULK AT MOST 1048576: true; the input reads as it did. -/
def fnAnyHeadUptoRow : OpenClaim := { program := "ytefkgdbmndhebaadoor", sum := "f1054cd6302b3e8e2f1d0454c2ffdc18943b0e36ccfd9dbbd6278299bfbb6973", func := "loop.example/lib-pathpatterns/laws.FnAnyHead", spec := "fnAnyHead", inPlace := ["internal/bytealg.IndexByteString", "internal/reflectlite.TypeOf"], unfollowed := true, recurses := true, named := ["path.ErrBadPattern", "unicode/utf8.first", "unicode/utf8.acceptRanges"], apart := false, laid := [("unicode/utf8.acceptRanges", laid_unicode_utf8_acceptRanges), ("path.ErrBadPattern", laid_path_ErrBadPattern), ("unicode/utf8.first", laid_unicode_utf8_first)], narrowed := true }
def FnAnyHeadUptoSaid : Prop := fnAnyHeadUptoRow.holds Tryd.pinned (OpenSpec.upto fnAnyHeadSpec)

/-- 'laws.FnAnyTail', WHERE WHAT IT READS IS OF BULK AT MOST 1048576: true; the input reads as it did. -/
def fnAnyTailUptoRow : OpenClaim := { program := "ytefkgdbmndhebaadoor", sum := "f1054cd6302b3e8e2f1d0454c2ffdc18943b0e36ccfd9dbbd6278299bfbb6973", func := "loop.example/lib-pathpatterns/laws.FnAnyTail", spec := "fnAnyTail", inPlace := ["internal/bytealg.IndexByteString", "internal/reflectlite.TypeOf", "internal/bytealg.IndexString"], unfollowed := true, recurses := true, named := ["path.ErrBadPattern", "unicode/utf8.first", "unicode/utf8.acceptRanges", "internal/bytealg.MaxLen"], apart := false, laid := [("unicode/utf8.acceptRanges", laid_unicode_utf8_acceptRanges), ("path.ErrBadPattern", laid_path_ErrBadPattern), ("unicode/utf8.first", laid_unicode_utf8_first)], narrowed := true }
def FnAnyTailUptoSaid : Prop := fnAnyTailUptoRow.holds Tryd.pinned (OpenSpec.upto fnAnyTailSpec)

/-- 'laws.FnClassAll', WHERE WHAT IT READS IS OF BULK AT MOST 1048576: true; the input reads as it did. -/
def fnClassAllUptoRow : OpenClaim := { program := "ytefkgdbmndhebaadoor", sum := "f1054cd6302b3e8e2f1d0454c2ffdc18943b0e36ccfd9dbbd6278299bfbb6973", func := "loop.example/lib-pathpatterns/laws.FnClassAll", spec := "fnClassAll", inPlace := ["internal/bytealg.IndexByteString", "internal/reflectlite.TypeOf", "internal/bytealg.IndexString"], unfollowed := true, recurses := true, named := ["path.ErrBadPattern", "unicode/utf8.first", "unicode/utf8.acceptRanges", "internal/bytealg.MaxLen"], apart := false, laid := [("unicode/utf8.acceptRanges", laid_unicode_utf8_acceptRanges), ("path.ErrBadPattern", laid_path_ErrBadPattern), ("unicode/utf8.first", laid_unicode_utf8_first)], narrowed := true }
def FnClassAllUptoSaid : Prop := fnClassAllUptoRow.holds Tryd.pinned (OpenSpec.upto fnClassAllSpec)

/-- 'laws.FnConcat', WHERE WHAT IT READS IS OF BULK AT MOST 1048576: true; the input reads as it did. -/
def fnConcatUptoRow : OpenClaim := { program := "ytefkgdbmndhebaadoor", sum := "f1054cd6302b3e8e2f1d0454c2ffdc18943b0e36ccfd9dbbd6278299bfbb6973", func := "loop.example/lib-pathpatterns/laws.FnConcat", spec := "fnConcat", inPlace := ["internal/bytealg.IndexByteString", "internal/reflectlite.TypeOf", "internal/bytealg.IndexString"], unfollowed := true, recurses := true, named := ["path.ErrBadPattern", "unicode/utf8.first", "unicode/utf8.acceptRanges", "internal/bytealg.MaxLen"], apart := false, laid := [("unicode/utf8.acceptRanges", laid_unicode_utf8_acceptRanges), ("path.ErrBadPattern", laid_path_ErrBadPattern), ("unicode/utf8.first", laid_unicode_utf8_first)], narrowed := true }
def FnConcatUptoSaid : Prop := fnConcatUptoRow.holds Tryd.pinned (OpenSpec.upto fnConcatSpec)

/-- 'laws.FnOneStar', WHERE WHAT IT READS IS OF BULK AT MOST 1048576: true; the input reads as it did. -/
def fnOneStarUptoRow : OpenClaim := { program := "ytefkgdbmndhebaadoor", sum := "f1054cd6302b3e8e2f1d0454c2ffdc18943b0e36ccfd9dbbd6278299bfbb6973", func := "loop.example/lib-pathpatterns/laws.FnOneStar", spec := "fnOneStar", inPlace := ["internal/bytealg.IndexByteString", "internal/reflectlite.TypeOf", "internal/bytealg.IndexString"], unfollowed := true, recurses := true, named := ["path.ErrBadPattern", "unicode/utf8.first", "unicode/utf8.acceptRanges", "internal/bytealg.MaxLen"], apart := false, laid := [("unicode/utf8.acceptRanges", laid_unicode_utf8_acceptRanges), ("path.ErrBadPattern", laid_path_ErrBadPattern), ("unicode/utf8.first", laid_unicode_utf8_first)], narrowed := true }
def FnOneStarUptoSaid : Prop := fnOneStarUptoRow.holds Tryd.pinned (OpenSpec.upto fnOneStarSpec)

/-- 'laws.FnSlashNone', WHERE WHAT IT READS IS OF BULK AT MOST 1048576: true; the input reads as it did. -/
def fnSlashNoneUptoRow : OpenClaim := { program := "ytefkgdbmndhebaadoor", sum := "f1054cd6302b3e8e2f1d0454c2ffdc18943b0e36ccfd9dbbd6278299bfbb6973", func := "loop.example/lib-pathpatterns/laws.FnSlashNone", spec := "fnSlashNone", inPlace := ["internal/bytealg.IndexByteString", "internal/reflectlite.TypeOf", "internal/bytealg.IndexString"], unfollowed := true, recurses := true, named := ["path.ErrBadPattern", "unicode/utf8.first", "unicode/utf8.acceptRanges", "internal/bytealg.MaxLen"], apart := false, laid := [("unicode/utf8.acceptRanges", laid_unicode_utf8_acceptRanges), ("path.ErrBadPattern", laid_path_ErrBadPattern), ("unicode/utf8.first", laid_unicode_utf8_first)], narrowed := true }
def FnSlashNoneUptoSaid : Prop := fnSlashNoneUptoRow.holds Tryd.pinned (OpenSpec.upto fnSlashNoneSpec)

/-- 'laws.FnSlashNoneBytes', WHERE WHAT IT READS IS OF BULK AT MOST 1048576: true; the input reads as it did. -/
def fnSlashNoneBytesUptoRow : OpenClaim := { program := "ytefkgdbmndhebaadoor", sum := "f1054cd6302b3e8e2f1d0454c2ffdc18943b0e36ccfd9dbbd6278299bfbb6973", func := "loop.example/lib-pathpatterns/laws.FnSlashNoneBytes", spec := "fnSlashNoneBytes", inPlace := ["internal/bytealg.IndexByteString", "internal/reflectlite.TypeOf", "internal/bytealg.IndexString"], unfollowed := true, recurses := true, named := ["path.ErrBadPattern", "unicode/utf8.first", "unicode/utf8.acceptRanges", "internal/bytealg.MaxLen"], apart := false, laid := [("unicode/utf8.acceptRanges", laid_unicode_utf8_acceptRanges), ("path.ErrBadPattern", laid_path_ErrBadPattern), ("unicode/utf8.first", laid_unicode_utf8_first)], narrowed := true }
def FnSlashNoneBytesUptoSaid : Prop := fnSlashNoneBytesUptoRow.holds Tryd.pinned (OpenSpec.upto fnSlashNoneBytesSpec)

/-- 'laws.FnStarAlone', WHERE WHAT IT READS IS OF BULK AT MOST 1048576: true; the input reads as it did. -/
def fnStarAloneUptoRow : OpenClaim := { program := "ytefkgdbmndhebaadoor", sum := "f1054cd6302b3e8e2f1d0454c2ffdc18943b0e36ccfd9dbbd6278299bfbb6973", func := "loop.example/lib-pathpatterns/laws.FnStarAlone", spec := "fnStarAlone", inPlace := ["internal/bytealg.IndexByteString", "internal/reflectlite.TypeOf", "internal/bytealg.IndexString"], unfollowed := true, recurses := true, named := ["unicode/utf8.first", "unicode/utf8.acceptRanges", "path.ErrBadPattern", "internal/bytealg.MaxLen"], apart := false, laid := [("unicode/utf8.acceptRanges", laid_unicode_utf8_acceptRanges), ("path.ErrBadPattern", laid_path_ErrBadPattern), ("unicode/utf8.first", laid_unicode_utf8_first)], narrowed := true }
def FnStarAloneUptoSaid : Prop := fnStarAloneUptoRow.holds Tryd.pinned (OpenSpec.upto fnStarAloneSpec)

/-- 'laws.FnStarEmpty', WHERE WHAT IT READS IS OF BULK AT MOST 1048576: true; the input reads as it did. -/
def fnStarEmptyUptoRow : OpenClaim := { program := "ytefkgdbmndhebaadoor", sum := "f1054cd6302b3e8e2f1d0454c2ffdc18943b0e36ccfd9dbbd6278299bfbb6973", func := "loop.example/lib-pathpatterns/laws.FnStarEmpty", spec := "fnStarEmpty", inPlace := ["internal/bytealg.IndexByteString", "internal/reflectlite.TypeOf", "internal/bytealg.IndexString"], unfollowed := true, recurses := true, named := ["path.ErrBadPattern", "unicode/utf8.first", "unicode/utf8.acceptRanges", "internal/bytealg.MaxLen"], apart := false, laid := [("unicode/utf8.acceptRanges", laid_unicode_utf8_acceptRanges), ("path.ErrBadPattern", laid_path_ErrBadPattern), ("unicode/utf8.first", laid_unicode_utf8_first)], narrowed := true }
def FnStarEmptyUptoSaid : Prop := fnStarEmptyUptoRow.holds Tryd.pinned (OpenSpec.upto fnStarEmptySpec)

/-- 'laws.FnStarHead', WHERE WHAT IT READS IS OF BULK AT MOST 1048576: true; the input reads as it did. -/
def fnStarHeadUptoRow : OpenClaim := { program := "ytefkgdbmndhebaadoor", sum := "f1054cd6302b3e8e2f1d0454c2ffdc18943b0e36ccfd9dbbd6278299bfbb6973", func := "loop.example/lib-pathpatterns/laws.FnStarHead", spec := "fnStarHead", inPlace := ["internal/bytealg.IndexByteString", "internal/reflectlite.TypeOf", "internal/bytealg.IndexString"], unfollowed := true, recurses := true, named := ["path.ErrBadPattern", "unicode/utf8.first", "unicode/utf8.acceptRanges", "internal/bytealg.MaxLen"], apart := false, laid := [("unicode/utf8.acceptRanges", laid_unicode_utf8_acceptRanges), ("path.ErrBadPattern", laid_path_ErrBadPattern), ("unicode/utf8.first", laid_unicode_utf8_first)], narrowed := true }
def FnStarHeadUptoSaid : Prop := fnStarHeadUptoRow.holds Tryd.pinned (OpenSpec.upto fnStarHeadSpec)

/-- 'laws.FnStarOne', WHERE WHAT IT READS IS OF BULK AT MOST 1048576: true; the input reads as it did. -/
def fnStarOneUptoRow : OpenClaim := { program := "ytefkgdbmndhebaadoor", sum := "f1054cd6302b3e8e2f1d0454c2ffdc18943b0e36ccfd9dbbd6278299bfbb6973", func := "loop.example/lib-pathpatterns/laws.FnStarOne", spec := "fnStarOne", inPlace := ["internal/bytealg.IndexByteString", "internal/reflectlite.TypeOf", "internal/bytealg.IndexString"], unfollowed := true, recurses := true, named := ["path.ErrBadPattern", "unicode/utf8.first", "unicode/utf8.acceptRanges", "internal/bytealg.MaxLen"], apart := false, laid := [("unicode/utf8.acceptRanges", laid_unicode_utf8_acceptRanges), ("path.ErrBadPattern", laid_path_ErrBadPattern), ("unicode/utf8.first", laid_unicode_utf8_first)], narrowed := true }
def FnStarOneUptoSaid : Prop := fnStarOneUptoRow.holds Tryd.pinned (OpenSpec.upto fnStarOneSpec)

/-- 'laws.FnQuoteTail', WHERE WHAT IT READS IS OF BULK AT MOST 1048576: true; the input reads as it did. -/
def fnQuoteTailUptoRow : OpenClaim := { program := "ytefkgdbmndhebaadoor", sum := "f1054cd6302b3e8e2f1d0454c2ffdc18943b0e36ccfd9dbbd6278299bfbb6973", func := "loop.example/lib-pathpatterns/laws.FnQuoteTail", spec := "fnQuoteTail", inPlace := ["internal/bytealg.IndexByteString", "internal/reflectlite.TypeOf", "internal/bytealg.IndexString"], unfollowed := true, recurses := true, named := ["path.ErrBadPattern", "unicode/utf8.first", "unicode/utf8.acceptRanges", "internal/bytealg.MaxLen"], apart := false, laid := [("unicode/utf8.acceptRanges", laid_unicode_utf8_acceptRanges), ("path.ErrBadPattern", laid_path_ErrBadPattern), ("unicode/utf8.first", laid_unicode_utf8_first)], narrowed := true }
def FnQuoteTailUptoSaid : Prop := fnQuoteTailUptoRow.holds Tryd.pinned (OpenSpec.upto fnQuoteTailSpec)

end Rows
end Go.Proofs.YtefkgdbmndhebaaDoor

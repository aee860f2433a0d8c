/-
  NARROWER THAN 'FOR EVERY INPUT', by the rows' own cells (each row's printed sentence says how): FnExactMatch: laid · FnAnyMany: laid · FnBaseStar: laid · FnParts: laid · FnJoinMatch: laid · FnExactBase: laid · FnExactClean: laid · FnExactDir: laid · FnExactJoin: laid.
  DERIVED. THE GIVEN ROWS OF THIS SEAT. 9 by the template 'for every input the law returns true; each argument reads behind the call as it read before'; 0 by the template 'total and deterministic' (their statements: YtlekeaganaliiaaDoorTotals.lean).
  GIVEN WITH THE SEED: the statements are not yours to turn. If you find one false, say at which input.
  Laid BY PROGRAM, IN A SANDBOX (cutbox-rows.mjs): the forced cells as the released guide's own fill.sh prints them over the translation c11fc55df04f9e4d… (all of the seat's roots in one cut). By AI agents, Wed Nov 11 2026. No macro, syntax, notation, axiom, sorry.
-/
import Derived.Test.YtlekeaganaliiaaDoorChecked
import GoSem.PinnedTables
import GoSem.Claim
import GoSem.ClaimJoined
import GoSem.ClaimMapViews
import Derived.JoinedTies
import Derived.KernelRfl
namespace Go.Proofs.YtlekeaganaliiaaDoor
/- THE CELL 'sum', in the pinned program and in every row, IS THE sha256 OF THE DUMP (.gsa) THAT YtlekeaganaliiaaDoorProg.lean LOADS. Nothing in Lean hashes anything: it is a label: what it is worth is what the hold of that sum in a sandbox is worth. -/
noncomputable def Tryd.pinned : Pinned := { name := "ytlekeaganaliiaadoor", sum := "c11fc55df04f9e4d578e283f56c50a61444a727ddfcf1cee9e2b46d0068e1211", checked := Tryd.checked }
namespace Rows
def none {H : Type} : Left H := { results := [], args := [] }

/- WHAT THE LISTED PACKAGE-LEVEL VARIABLES READ AS WHEN THE CALL BEGINS. Each datum BY PROGRAM (the guide's laid-datum.mjs) off the statement by which the dump's own 'gosem.cut.vars' lays the variable. In a bare row this is a premise. The card (YtlekeaganaliiaaDoorCards.lean) ties it to the program's text. -/
def laid_unicode_utf8_acceptRanges {H : Type} : DataW H := .agg [.agg [.lit (.int .u8 128), .lit (.int .u8 191)], .agg [.lit (.int .u8 160), .lit (.int .u8 191)], .agg [.lit (.int .u8 128), .lit (.int .u8 159)], .agg [.lit (.int .u8 144), .lit (.int .u8 191)], .agg [.lit (.int .u8 128), .lit (.int .u8 143)], .agg [.lit (.int .u8 0), .lit (.int .u8 0)], .agg [.lit (.int .u8 0), .lit (.int .u8 0)], .agg [.lit (.int .u8 0), .lit (.int .u8 0)], .agg [.lit (.int .u8 0), .lit (.int .u8 0)], .agg [.lit (.int .u8 0), .lit (.int .u8 0)], .agg [.lit (.int .u8 0), .lit (.int .u8 0)], .agg [.lit (.int .u8 0), .lit (.int .u8 0)], .agg [.lit (.int .u8 0), .lit (.int .u8 0)], .agg [.lit (.int .u8 0), .lit (.int .u8 0)], .agg [.lit (.int .u8 0), .lit (.int .u8 0)], .agg [.lit (.int .u8 0), .lit (.int .u8 0)]]
def laid_path_ErrBadPattern {H : Type} : DataW H := .iface "*errors.errorString" (.ptr (.agg [.lit (.string [115, 121, 110, 116, 97, 120, 32, 101, 114, 114, 111, 114, 32, 105, 110, 32, 112, 97, 116, 116, 101, 114, 110])]))
/-- One of Go's own tables, pinned by name: the form's constant. -/
def laid_unicode_utf8_first : DataW Unit := Go.Pinned.utf8First

/-- 'laws.FnExactMatch': WHATEVER THE INPUT: true; the input reads as it did. -/
def fnExactMatchSpec : ChangeSpec := { name := "fnExactMatch", fn := fun _ => fun
  | [d1, d2] => { results := [.lit (.bool true)], args := [d1, d2] }
  | _ => none }
def fnExactMatchRow : OpenClaim := { program := "ytlekeaganaliiaadoor", sum := "c11fc55df04f9e4d578e283f56c50a61444a727ddfcf1cee9e2b46d0068e1211", func := "loop.example/lib-pathpatterns/laws.FnExactMatch", spec := "fnExactMatch", inPlace := ["internal/bytealg.IndexByteString", "internal/bytealg.IndexString", "internal/reflectlite.TypeOf"], unfollowed := true, recurses := true, named := ["unicode/utf8.first", "unicode/utf8.acceptRanges", "internal/bytealg.MaxLen", "path.ErrBadPattern"], apart := false, laid := [("unicode/utf8.acceptRanges", laid_unicode_utf8_acceptRanges), ("path.ErrBadPattern", laid_path_ErrBadPattern), ("unicode/utf8.first", laid_unicode_utf8_first)] }
def FnExactMatchSaid : Prop := fnExactMatchRow.holds Tryd.pinned (OpenSpec.ofChange fnExactMatchSpec)

/-- ITS FALSE NEIGHBOUR: 'it returns false'. Refute it at one input. -/
def fnExactMatchWrong : ChangeSpec := { name := "fnExactMatch", fn := fun _ => fun
  | [d1, d2] => { results := [.lit (.bool false)], args := [d1, d2] }
  | _ => none }
def FnExactMatchWrongFalsely : Prop := fnExactMatchRow.holds Tryd.pinned (OpenSpec.ofChange fnExactMatchWrong)

/-- 'laws.FnAnyMany': WHATEVER THE INPUT: true; the input reads as it did. -/
def fnAnyManySpec : ChangeSpec := { name := "fnAnyMany", fn := fun _ => fun
  | [d] => { results := [.lit (.bool true)], args := [d] }
  | _ => none }
def fnAnyManyRow : OpenClaim := { program := "ytlekeaganaliiaadoor", sum := "c11fc55df04f9e4d578e283f56c50a61444a727ddfcf1cee9e2b46d0068e1211", func := "loop.example/lib-pathpatterns/laws.FnAnyMany", spec := "fnAnyMany", inPlace := ["internal/abi.NoEscape", "internal/bytealg.MakeNoZero", "internal/bytealg.IndexByteString", "internal/reflectlite.TypeOf", "internal/bytealg.IndexString"], unfollowed := true, recurses := true, named := ["unicode/utf8.first", "unicode/utf8.acceptRanges", "path.ErrBadPattern", "internal/bytealg.MaxLen"], apart := false, laid := [("unicode/utf8.acceptRanges", laid_unicode_utf8_acceptRanges), ("path.ErrBadPattern", laid_path_ErrBadPattern), ("unicode/utf8.first", laid_unicode_utf8_first)] }
def FnAnyManySaid : Prop := fnAnyManyRow.holds Tryd.pinned (OpenSpec.ofChange fnAnyManySpec)

/-- ITS FALSE NEIGHBOUR: 'it returns false'. Refute it at one input. -/
def fnAnyManyWrong : ChangeSpec := { name := "fnAnyMany", fn := fun _ => fun
  | [d] => { results := [.lit (.bool false)], args := [d] }
  | _ => none }
def FnAnyManyWrongFalsely : Prop := fnAnyManyRow.holds Tryd.pinned (OpenSpec.ofChange fnAnyManyWrong)

/-- 'laws.FnBaseStar': WHATEVER THE INPUT: true; the input reads as it did. -/
def fnBaseStarSpec : ChangeSpec := { name := "fnBaseStar", fn := fun _ => fun
  | [d] => { results := [.lit (.bool true)], args := [d] }
  | _ => none }
def fnBaseStarRow : OpenClaim := { program := "ytlekeaganaliiaadoor", sum := "c11fc55df04f9e4d578e283f56c50a61444a727ddfcf1cee9e2b46d0068e1211", func := "loop.example/lib-pathpatterns/laws.FnBaseStar", spec := "fnBaseStar", inPlace := ["internal/bytealg.IndexByteString", "internal/reflectlite.TypeOf", "internal/bytealg.IndexString"], unfollowed := true, recurses := true, named := ["unicode/utf8.first", "unicode/utf8.acceptRanges", "path.ErrBadPattern", "internal/bytealg.MaxLen"], apart := false, laid := [("unicode/utf8.acceptRanges", laid_unicode_utf8_acceptRanges), ("path.ErrBadPattern", laid_path_ErrBadPattern), ("unicode/utf8.first", laid_unicode_utf8_first)] }
def FnBaseStarSaid : Prop := fnBaseStarRow.holds Tryd.pinned (OpenSpec.ofChange fnBaseStarSpec)

/-- ITS FALSE NEIGHBOUR: 'it returns false'. Refute it at one input. -/
def fnBaseStarWrong : ChangeSpec := { name := "fnBaseStar", fn := fun _ => fun
  | [d] => { results := [.lit (.bool false)], args := [d] }
  | _ => none }
def FnBaseStarWrongFalsely : Prop := fnBaseStarRow.holds Tryd.pinned (OpenSpec.ofChange fnBaseStarWrong)

/-- 'laws.FnParts': WHATEVER THE INPUT: true; the input reads as it did. -/
def fnPartsSpec : ChangeSpec := { name := "fnParts", fn := fun _ => fun
  | [d] => { results := [.lit (.bool true)], args := [d] }
  | _ => none }
def fnPartsRow : OpenClaim := { program := "ytlekeaganaliiaadoor", sum := "c11fc55df04f9e4d578e283f56c50a61444a727ddfcf1cee9e2b46d0068e1211", func := "loop.example/lib-pathpatterns/laws.FnParts", spec := "fnParts", inPlace := ["internal/bytealg.IndexByteString", "internal/reflectlite.TypeOf", "internal/bytealg.IndexString", "internal/abi.NoEscape", "internal/bytealg.MakeNoZero"], unfollowed := true, recurses := true, named := ["path.ErrBadPattern", "unicode/utf8.first", "unicode/utf8.acceptRanges", "internal/bytealg.MaxLen"], apart := false, laid := [("unicode/utf8.acceptRanges", laid_unicode_utf8_acceptRanges), ("path.ErrBadPattern", laid_path_ErrBadPattern), ("unicode/utf8.first", laid_unicode_utf8_first)] }
def FnPartsSaid : Prop := fnPartsRow.holds Tryd.pinned (OpenSpec.ofChange fnPartsSpec)

/-- ITS FALSE NEIGHBOUR: 'it returns false'. Refute it at one input. -/
def fnPartsWrong : ChangeSpec := { name := "fnParts", fn := fun _ => fun
  | [d] => { results := [.lit (.bool false)], args := [d] }
  | _ => none }
def FnPartsWrongFalsely : Prop := fnPartsRow.holds Tryd.pinned (OpenSpec.ofChange fnPartsWrong)

/-- 'laws.FnJoinMatch': WHATEVER THE INPUT: true; the input reads as it did. -/
def fnJoinMatchSpec : ChangeSpec := { name := "fnJoinMatch", fn := fun _ => fun
  | [d] => { results := [.lit (.bool true)], args := [d] }
  | _ => none }
def fnJoinMatchRow : OpenClaim := { program := "ytlekeaganaliiaadoor", sum := "c11fc55df04f9e4d578e283f56c50a61444a727ddfcf1cee9e2b46d0068e1211", func := "loop.example/lib-pathpatterns/laws.FnJoinMatch", spec := "fnJoinMatch", inPlace := ["internal/bytealg.IndexByteString", "internal/reflectlite.TypeOf", "internal/bytealg.IndexString", "internal/abi.NoEscape", "internal/bytealg.MakeNoZero"], unfollowed := true, recurses := true, named := ["path.ErrBadPattern", "unicode/utf8.first", "unicode/utf8.acceptRanges", "internal/bytealg.MaxLen"], apart := false, laid := [("unicode/utf8.acceptRanges", laid_unicode_utf8_acceptRanges), ("path.ErrBadPattern", laid_path_ErrBadPattern), ("unicode/utf8.first", laid_unicode_utf8_first)] }
def FnJoinMatchSaid : Prop := fnJoinMatchRow.holds Tryd.pinned (OpenSpec.ofChange fnJoinMatchSpec)

/-- ITS FALSE NEIGHBOUR: 'it returns false'. Refute it at one input. -/
def fnJoinMatchWrong : ChangeSpec := { name := "fnJoinMatch", fn := fun _ => fun
  | [d] => { results := [.lit (.bool false)], args := [d] }
  | _ => none }
def FnJoinMatchWrongFalsely : Prop := fnJoinMatchRow.holds Tryd.pinned (OpenSpec.ofChange fnJoinMatchWrong)

/-- 'laws.FnExactBase': WHATEVER THE INPUT: true; the input reads as it did. -/
def fnExactBaseSpec : ChangeSpec := { name := "fnExactBase", fn := fun _ => fun
  | [d] => { results := [.lit (.bool true)], args := [d] }
  | _ => none }
def fnExactBaseRow : OpenClaim := { program := "ytlekeaganaliiaadoor", sum := "c11fc55df04f9e4d578e283f56c50a61444a727ddfcf1cee9e2b46d0068e1211", func := "loop.example/lib-pathpatterns/laws.FnExactBase", spec := "fnExactBase", inPlace := ["internal/bytealg.IndexByteString", "internal/bytealg.IndexString"], named := ["unicode/utf8.first", "unicode/utf8.acceptRanges", "internal/bytealg.MaxLen"], apart := false, laid := [("unicode/utf8.acceptRanges", laid_unicode_utf8_acceptRanges), ("unicode/utf8.first", laid_unicode_utf8_first)] }
def FnExactBaseSaid : Prop := fnExactBaseRow.holds Tryd.pinned (OpenSpec.ofChange fnExactBaseSpec)

/-- ITS FALSE NEIGHBOUR: 'it returns false'. Refute it at one input. -/
def fnExactBaseWrong : ChangeSpec := { name := "fnExactBase", fn := fun _ => fun
  | [d] => { results := [.lit (.bool false)], args := [d] }
  | _ => none }
def FnExactBaseWrongFalsely : Prop := fnExactBaseRow.holds Tryd.pinned (OpenSpec.ofChange fnExactBaseWrong)

/-- 'laws.FnExactClean': WHATEVER THE INPUT: true; the input reads as it did. -/
def fnExactCleanSpec : ChangeSpec := { name := "fnExactClean", fn := fun _ => fun
  | [d] => { results := [.lit (.bool true)], args := [d] }
  | _ => none }
def fnExactCleanRow : OpenClaim := { program := "ytlekeaganaliiaadoor", sum := "c11fc55df04f9e4d578e283f56c50a61444a727ddfcf1cee9e2b46d0068e1211", func := "loop.example/lib-pathpatterns/laws.FnExactClean", spec := "fnExactClean", inPlace := ["internal/bytealg.CountString", "internal/bytealg.IndexByteString", "internal/bytealg.IndexString", "internal/abi.NoEscape", "internal/bytealg.MakeNoZero"], named := ["unicode/utf8.first", "unicode/utf8.acceptRanges", "internal/bytealg.MaxLen"], apart := false, laid := [("unicode/utf8.acceptRanges", laid_unicode_utf8_acceptRanges), ("unicode/utf8.first", laid_unicode_utf8_first)] }
def FnExactCleanSaid : Prop := fnExactCleanRow.holds Tryd.pinned (OpenSpec.ofChange fnExactCleanSpec)

/-- ITS FALSE NEIGHBOUR: 'it returns false'. Refute it at one input. -/
def fnExactCleanWrong : ChangeSpec := { name := "fnExactClean", fn := fun _ => fun
  | [d] => { results := [.lit (.bool false)], args := [d] }
  | _ => none }
def FnExactCleanWrongFalsely : Prop := fnExactCleanRow.holds Tryd.pinned (OpenSpec.ofChange fnExactCleanWrong)

/-- 'laws.FnExactDir': WHATEVER THE INPUT: true; the input reads as it did. -/
def fnExactDirSpec : ChangeSpec := { name := "fnExactDir", fn := fun _ => fun
  | [d] => { results := [.lit (.bool true)], args := [d] }
  | _ => none }
def fnExactDirRow : OpenClaim := { program := "ytlekeaganaliiaadoor", sum := "c11fc55df04f9e4d578e283f56c50a61444a727ddfcf1cee9e2b46d0068e1211", func := "loop.example/lib-pathpatterns/laws.FnExactDir", spec := "fnExactDir", inPlace := ["internal/bytealg.CountString", "internal/bytealg.IndexByteString", "internal/bytealg.IndexString", "internal/abi.NoEscape", "internal/bytealg.MakeNoZero"], named := ["unicode/utf8.first", "unicode/utf8.acceptRanges", "internal/bytealg.MaxLen"], apart := false, laid := [("unicode/utf8.acceptRanges", laid_unicode_utf8_acceptRanges), ("unicode/utf8.first", laid_unicode_utf8_first)] }
def FnExactDirSaid : Prop := fnExactDirRow.holds Tryd.pinned (OpenSpec.ofChange fnExactDirSpec)

/-- ITS FALSE NEIGHBOUR: 'it returns false'. Refute it at one input. -/
def fnExactDirWrong : ChangeSpec := { name := "fnExactDir", fn := fun _ => fun
  | [d] => { results := [.lit (.bool false)], args := [d] }
  | _ => none }
def FnExactDirWrongFalsely : Prop := fnExactDirRow.holds Tryd.pinned (OpenSpec.ofChange fnExactDirWrong)

/-- 'laws.FnExactJoin': WHATEVER THE INPUT: true; the input reads as it did. -/
def fnExactJoinSpec : ChangeSpec := { name := "fnExactJoin", fn := fun _ => fun
  | [d] => { results := [.lit (.bool true)], args := [d] }
  | _ => none }
def fnExactJoinRow : OpenClaim := { program := "ytlekeaganaliiaadoor", sum := "c11fc55df04f9e4d578e283f56c50a61444a727ddfcf1cee9e2b46d0068e1211", func := "loop.example/lib-pathpatterns/laws.FnExactJoin", spec := "fnExactJoin", inPlace := ["internal/abi.NoEscape", "internal/bytealg.MakeNoZero", "internal/bytealg.CountString", "internal/bytealg.IndexByteString", "internal/bytealg.IndexString"], named := ["unicode/utf8.first", "unicode/utf8.acceptRanges", "internal/bytealg.MaxLen"], apart := false, laid := [("unicode/utf8.acceptRanges", laid_unicode_utf8_acceptRanges), ("unicode/utf8.first", laid_unicode_utf8_first)] }
def FnExactJoinSaid : Prop := fnExactJoinRow.holds Tryd.pinned (OpenSpec.ofChange fnExactJoinSpec)

/-- ITS FALSE NEIGHBOUR: 'it returns false'. Refute it at one input. -/
def fnExactJoinWrong : ChangeSpec := { name := "fnExactJoin", fn := fun _ => fun
  | [d] => { results := [.lit (.bool false)], args := [d] }
  | _ => none }
def FnExactJoinWrongFalsely : Prop := fnExactJoinRow.holds Tryd.pinned (OpenSpec.ofChange fnExactJoinWrong)

/- THE SECOND FORM. 'bulk': how many values and letters a reading holds, each counted each time it is reached (what is shared counts as often as it is met; a slice's spare places count too). A statement '..UptoSaid' is the law's where the arguments, and the package variables that the reading takes, are together of bulk at most 1048576: NARROWER than '..Said'. Prove '..Said' where nothing that the law and all that it calls make is longer than what came in: it says more and counts as full. Else prove '..UptoSaid'. A law counts once. -/
mutual
def uptoBulk {H : Type} : DataW H → Nat
  | .lit (.string bytes) => bytes.length + 1
  | .lit _ => 1
  | .nil => 1
  | .ptr d => uptoBulk d + 1
  | .slice elems spare => uptoBulkAll elems + uptoBulkAll spare + 1
  | .agg parts => uptoBulkAll parts + 1
  | .iface _ d => uptoBulk d + 1
  | .map entries => uptoBulkEntries entries + 1
  | .held _ => 1
def uptoBulkAll {H : Type} : List (DataW H) → Nat
  | [] => 0
  | d :: r => uptoBulk d + uptoBulkAll r
def uptoBulkEntries {H : Type} : List (Lit × DataW H) → Nat
  | [] => 0
  | x :: r => uptoBulkEntry x + uptoBulkEntries r
def uptoBulkEntry {H : Type} : Lit × DataW H → Nat
  | (.string bytes, d) => bytes.length + uptoBulk d + 1
  | (_, d) => uptoBulk d + 1
 end
def uptoSmall : (H : Type) → List (DataW H) → Bool := fun _ ds => decide (uptoBulkAll ds ≤ 1048576)
def OpenSpec.upto (s : _root_.Go.ChangeSpec) : _root_.Go.OpenSpec := { _root_.Go.OpenSpec.ofChange s with cond := some uptoSmall }

/-- 'laws.FnExactMatch', WHERE WHAT IT READS IS OF BULK AT MOST 1048576: true; the input reads as it did. -/
def fnExactMatchUptoRow : OpenClaim := { program := "ytlekeaganaliiaadoor", sum := "c11fc55df04f9e4d578e283f56c50a61444a727ddfcf1cee9e2b46d0068e1211", func := "loop.example/lib-pathpatterns/laws.FnExactMatch", spec := "fnExactMatch", inPlace := ["internal/bytealg.IndexByteString", "internal/bytealg.IndexString", "internal/reflectlite.TypeOf"], unfollowed := true, recurses := true, named := ["unicode/utf8.first", "unicode/utf8.acceptRanges", "internal/bytealg.MaxLen", "path.ErrBadPattern"], apart := false, laid := [("unicode/utf8.acceptRanges", laid_unicode_utf8_acceptRanges), ("path.ErrBadPattern", laid_path_ErrBadPattern), ("unicode/utf8.first", laid_unicode_utf8_first)], narrowed := true }
def FnExactMatchUptoSaid : Prop := fnExactMatchUptoRow.holds Tryd.pinned (OpenSpec.upto fnExactMatchSpec)

/-- 'laws.FnAnyMany', WHERE WHAT IT READS IS OF BULK AT MOST 1048576: true; the input reads as it did. -/
def fnAnyManyUptoRow : OpenClaim := { program := "ytlekeaganaliiaadoor", sum := "c11fc55df04f9e4d578e283f56c50a61444a727ddfcf1cee9e2b46d0068e1211", func := "loop.example/lib-pathpatterns/laws.FnAnyMany", spec := "fnAnyMany", inPlace := ["internal/abi.NoEscape", "internal/bytealg.MakeNoZero", "internal/bytealg.IndexByteString", "internal/reflectlite.TypeOf", "internal/bytealg.IndexString"], unfollowed := true, recurses := true, named := ["unicode/utf8.first", "unicode/utf8.acceptRanges", "path.ErrBadPattern", "internal/bytealg.MaxLen"], apart := false, laid := [("unicode/utf8.acceptRanges", laid_unicode_utf8_acceptRanges), ("path.ErrBadPattern", laid_path_ErrBadPattern), ("unicode/utf8.first", laid_unicode_utf8_first)], narrowed := true }
def FnAnyManyUptoSaid : Prop := fnAnyManyUptoRow.holds Tryd.pinned (OpenSpec.upto fnAnyManySpec)

/-- 'laws.FnBaseStar', WHERE WHAT IT READS IS OF BULK AT MOST 1048576: true; the input reads as it did. -/
def fnBaseStarUptoRow : OpenClaim := { program := "ytlekeaganaliiaadoor", sum := "c11fc55df04f9e4d578e283f56c50a61444a727ddfcf1cee9e2b46d0068e1211", func := "loop.example/lib-pathpatterns/laws.FnBaseStar", spec := "fnBaseStar", inPlace := ["internal/bytealg.IndexByteString", "internal/reflectlite.TypeOf", "internal/bytealg.IndexString"], unfollowed := true, recurses := true, named := ["unicode/utf8.first", "unicode/utf8.acceptRanges", "path.ErrBadPattern", "internal/bytealg.MaxLen"], apart := false, laid := [("unicode/utf8.acceptRanges", laid_unicode_utf8_acceptRanges), ("path.ErrBadPattern", laid_path_ErrBadPattern), ("unicode/utf8.first", laid_unicode_utf8_first)], narrowed := true }
def FnBaseStarUptoSaid : Prop := fnBaseStarUptoRow.holds Tryd.pinned (OpenSpec.upto fnBaseStarSpec)

/-- 'laws.FnParts', WHERE WHAT IT READS IS OF BULK AT MOST 1048576: true; the input reads as it did. -/
def fnPartsUptoRow : OpenClaim := { program := "ytlekeaganaliiaadoor", sum := "c11fc55df04f9e4d578e283f56c50a61444a727ddfcf1cee9e2b46d0068e1211", func := "loop.example/lib-pathpatterns/laws.FnParts", spec := "fnParts", inPlace := ["internal/bytealg.IndexByteString", "internal/reflectlite.TypeOf", "internal/bytealg.IndexString", "internal/abi.NoEscape", "internal/bytealg.MakeNoZero"], unfollowed := true, recurses := true, named := ["path.ErrBadPattern", "unicode/utf8.first", "unicode/utf8.acceptRanges", "internal/bytealg.MaxLen"], apart := false, laid := [("unicode/utf8.acceptRanges", laid_unicode_utf8_acceptRanges), ("path.ErrBadPattern", laid_path_ErrBadPattern), ("unicode/utf8.first", laid_unicode_utf8_first)], narrowed := true }
def FnPartsUptoSaid : Prop := fnPartsUptoRow.holds Tryd.pinned (OpenSpec.upto fnPartsSpec)

/-- 'laws.FnJoinMatch', WHERE WHAT IT READS IS OF BULK AT MOST 1048576: true; the input reads as it did. -/
def fnJoinMatchUptoRow : OpenClaim := { program := "ytlekeaganaliiaadoor", sum := "c11fc55df04f9e4d578e283f56c50a61444a727ddfcf1cee9e2b46d0068e1211", func := "loop.example/lib-pathpatterns/laws.FnJoinMatch", spec := "fnJoinMatch", inPlace := ["internal/bytealg.IndexByteString", "internal/reflectlite.TypeOf", "internal/bytealg.IndexString", "internal/abi.NoEscape", "internal/bytealg.MakeNoZero"], unfollowed := true, recurses := true, named := ["path.ErrBadPattern", "unicode/utf8.first", "unicode/utf8.acceptRanges", "internal/bytealg.MaxLen"], apart := false, laid := [("unicode/utf8.acceptRanges", laid_unicode_utf8_acceptRanges), ("path.ErrBadPattern", laid_path_ErrBadPattern), ("unicode/utf8.first", laid_unicode_utf8_first)], narrowed := true }
def FnJoinMatchUptoSaid : Prop := fnJoinMatchUptoRow.holds Tryd.pinned (OpenSpec.upto fnJoinMatchSpec)

/-- 'laws.FnExactBase', WHERE WHAT IT READS IS OF BULK AT MOST 1048576: true; the input reads as it did. -/
def fnExactBaseUptoRow : OpenClaim := { program := "ytlekeaganaliiaadoor", sum := "c11fc55df04f9e4d578e283f56c50a61444a727ddfcf1cee9e2b46d0068e1211", func := "loop.example/lib-pathpatterns/laws.FnExactBase", spec := "fnExactBase", inPlace := ["internal/bytealg.IndexByteString", "internal/bytealg.IndexString"], named := ["unicode/utf8.first", "unicode/utf8.acceptRanges", "internal/bytealg.MaxLen"], apart := false, laid := [("unicode/utf8.acceptRanges", laid_unicode_utf8_acceptRanges), ("unicode/utf8.first", laid_unicode_utf8_first)], narrowed := true }
def FnExactBaseUptoSaid : Prop := fnExactBaseUptoRow.holds Tryd.pinned (OpenSpec.upto fnExactBaseSpec)

/-- 'laws.FnExactClean', WHERE WHAT IT READS IS OF BULK AT MOST 1048576: true; the input reads as it did. -/
def fnExactCleanUptoRow : OpenClaim := { program := "ytlekeaganaliiaadoor", sum := "c11fc55df04f9e4d578e283f56c50a61444a727ddfcf1cee9e2b46d0068e1211", func := "loop.example/lib-pathpatterns/laws.FnExactClean", spec := "fnExactClean", inPlace := ["internal/bytealg.CountString", "internal/bytealg.IndexByteString", "internal/bytealg.IndexString", "internal/abi.NoEscape", "internal/bytealg.MakeNoZero"], named := ["unicode/utf8.first", "unicode/utf8.acceptRanges", "internal/bytealg.MaxLen"], apart := false, laid := [("unicode/utf8.acceptRanges", laid_unicode_utf8_acceptRanges), ("unicode/utf8.first", laid_unicode_utf8_first)], narrowed := true }
def FnExactCleanUptoSaid : Prop := fnExactCleanUptoRow.holds Tryd.pinned (OpenSpec.upto fnExactCleanSpec)

/-- 'laws.FnExactDir', WHERE WHAT IT READS IS OF BULK AT MOST 1048576: true; the input reads as it did. -/
def fnExactDirUptoRow : OpenClaim := { program := "ytlekeaganaliiaadoor", sum := "c11fc55df04f9e4d578e283f56c50a61444a727ddfcf1cee9e2b46d0068e1211", func := "loop.example/lib-pathpatterns/laws.FnExactDir", spec := "fnExactDir", inPlace := ["internal/bytealg.CountString", "internal/bytealg.IndexByteString", "internal/bytealg.IndexString", "internal/abi.NoEscape", "internal/bytealg.MakeNoZero"], named := ["unicode/utf8.first", "unicode/utf8.acceptRanges", "internal/bytealg.MaxLen"], apart := false, laid := [("unicode/utf8.acceptRanges", laid_unicode_utf8_acceptRanges), ("unicode/utf8.first", laid_unicode_utf8_first)], narrowed := true }
def FnExactDirUptoSaid : Prop := fnExactDirUptoRow.holds Tryd.pinned (OpenSpec.upto fnExactDirSpec)

/-- 'laws.FnExactJoin', WHERE WHAT IT READS IS OF BULK AT MOST 1048576: true; the input reads as it did. -/
def fnExactJoinUptoRow : OpenClaim := { program := "ytlekeaganaliiaadoor", sum := "c11fc55df04f9e4d578e283f56c50a61444a727ddfcf1cee9e2b46d0068e1211", func := "loop.example/lib-pathpatterns/laws.FnExactJoin", spec := "fnExactJoin", inPlace := ["internal/abi.NoEscape", "internal/bytealg.MakeNoZero", "internal/bytealg.CountString", "internal/bytealg.IndexByteString", "internal/bytealg.IndexString"], named := ["unicode/utf8.first", "unicode/utf8.acceptRanges", "internal/bytealg.MaxLen"], apart := false, laid := [("unicode/utf8.acceptRanges", laid_unicode_utf8_acceptRanges), ("unicode/utf8.first", laid_unicode_utf8_first)], narrowed := true }
def FnExactJoinUptoSaid : Prop := fnExactJoinUptoRow.holds Tryd.pinned (OpenSpec.upto fnExactJoinSpec)

end Rows
end Go.Proofs.YtlekeaganaliiaaDoor

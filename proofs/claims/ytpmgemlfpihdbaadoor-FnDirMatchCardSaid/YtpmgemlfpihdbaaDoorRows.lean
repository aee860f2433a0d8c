/-
  NARROWER THAN 'FOR EVERY INPUT', by the rows' own cells (each row's printed sentence says how): FnStarCount: laid · FnParts: laid · FnDirMatch: laid · FnBaseStar: laid · FnExactFails: laid · FnExactFailsCorner: laid · FnExactMatch: laid · FnJoinMatch: laid · FnAnyMany: laid.
  DERIVED. THE GIVEN ROWS OF THIS SEAT. 9 by the template 'for every input the law returns true; each argument reads behind the call as it read before'; 0 by the template 'total and deterministic' (their statements: YtpmgemlfpihdbaaDoorTotals.lean).
  GIVEN WITH THE SEED: the statements are not yours to turn. If you find one false, say at which input.
  Laid BY PROGRAM, IN A SANDBOX (cutbox-rows.mjs): the forced cells as the released guide's own fill.sh prints them over the translation 4d69144a89cdcfcc… (all of the seat's roots in one cut). By AI agents, Wed Nov 11 2026. No macro, syntax, notation, axiom, sorry.
-/
import Derived.Test.YtpmgemlfpihdbaaDoorChecked
import GoSem.PinnedTables
import GoSem.Claim
import GoSem.ClaimJoined
import GoSem.ClaimMapViews
import Derived.JoinedTies
import Derived.KernelRfl
namespace Go.Proofs.YtpmgemlfpihdbaaDoor
/- THE CELL 'sum', in the pinned program and in every row, IS THE sha256 OF THE DUMP (.gsa) THAT YtpmgemlfpihdbaaDoorProg.lean LOADS. Nothing in Lean hashes anything: it is a label: what it is worth is what the hold of that sum in a sandbox is worth. -/
noncomputable def Tryd.pinned : Pinned := { name := "ytpmgemlfpihdbaadoor", sum := "4d69144a89cdcfcc3d2d3d1ba278a5470db3d683308bc59548a1ff18824a5ee3", checked := Tryd.checked }
namespace Rows
def none {H : Type} : Left H := { results := [], args := [] }

/- WHAT THE LISTED PACKAGE-LEVEL VARIABLES READ AS WHEN THE CALL BEGINS. Each datum BY PROGRAM (the guide's laid-datum.mjs) off the statement by which the dump's own 'gosem.cut.vars' lays the variable. In a bare row this is a premise. The card (YtpmgemlfpihdbaaDoorCards.lean) ties it to the program's text. -/
def laid_unicode_utf8_acceptRanges {H : Type} : DataW H := .agg [.agg [.lit (.int .u8 128), .lit (.int .u8 191)], .agg [.lit (.int .u8 160), .lit (.int .u8 191)], .agg [.lit (.int .u8 128), .lit (.int .u8 159)], .agg [.lit (.int .u8 144), .lit (.int .u8 191)], .agg [.lit (.int .u8 128), .lit (.int .u8 143)], .agg [.lit (.int .u8 0), .lit (.int .u8 0)], .agg [.lit (.int .u8 0), .lit (.int .u8 0)], .agg [.lit (.int .u8 0), .lit (.int .u8 0)], .agg [.lit (.int .u8 0), .lit (.int .u8 0)], .agg [.lit (.int .u8 0), .lit (.int .u8 0)], .agg [.lit (.int .u8 0), .lit (.int .u8 0)], .agg [.lit (.int .u8 0), .lit (.int .u8 0)], .agg [.lit (.int .u8 0), .lit (.int .u8 0)], .agg [.lit (.int .u8 0), .lit (.int .u8 0)], .agg [.lit (.int .u8 0), .lit (.int .u8 0)], .agg [.lit (.int .u8 0), .lit (.int .u8 0)]]
def laid_path_ErrBadPattern {H : Type} : DataW H := .iface "*errors.errorString" (.ptr (.agg [.lit (.string [115, 121, 110, 116, 97, 120, 32, 101, 114, 114, 111, 114, 32, 105, 110, 32, 112, 97, 116, 116, 101, 114, 110])]))
/-- One of Go's own tables, pinned by name: the form's constant. -/
def laid_unicode_utf8_first : DataW Unit := Go.Pinned.utf8First

/-- 'laws.FnStarCount': WHATEVER THE INPUT: true; the input reads as it did. -/
def fnStarCountSpec : ChangeSpec := { name := "fnStarCount", fn := fun _ => fun
  | [d] => { results := [.lit (.bool true)], args := [d] }
  | _ => none }
def fnStarCountRow : OpenClaim := { program := "ytpmgemlfpihdbaadoor", sum := "4d69144a89cdcfcc3d2d3d1ba278a5470db3d683308bc59548a1ff18824a5ee3", func := "loop.example/lib-pathpatterns/laws.FnStarCount", spec := "fnStarCount", inPlace := ["internal/bytealg.IndexByteString", "internal/reflectlite.TypeOf", "internal/bytealg.CountString", "internal/bytealg.IndexString"], unfollowed := true, recurses := true, named := ["unicode/utf8.first", "unicode/utf8.acceptRanges", "path.ErrBadPattern", "internal/bytealg.MaxLen"], apart := false, laid := [("unicode/utf8.acceptRanges", laid_unicode_utf8_acceptRanges), ("path.ErrBadPattern", laid_path_ErrBadPattern), ("unicode/utf8.first", laid_unicode_utf8_first)] }
def FnStarCountSaid : Prop := fnStarCountRow.holds Tryd.pinned (OpenSpec.ofChange fnStarCountSpec)

/-- ITS FALSE NEIGHBOUR: 'it returns false'. Refute it at one input. -/
def fnStarCountWrong : ChangeSpec := { name := "fnStarCount", fn := fun _ => fun
  | [d] => { results := [.lit (.bool false)], args := [d] }
  | _ => none }
def FnStarCountWrongFalsely : Prop := fnStarCountRow.holds Tryd.pinned (OpenSpec.ofChange fnStarCountWrong)

/-- 'laws.FnParts': WHATEVER THE INPUT: true; the input reads as it did. -/
def fnPartsSpec : ChangeSpec := { name := "fnParts", fn := fun _ => fun
  | [d] => { results := [.lit (.bool true)], args := [d] }
  | _ => none }
def fnPartsRow : OpenClaim := { program := "ytpmgemlfpihdbaadoor", sum := "4d69144a89cdcfcc3d2d3d1ba278a5470db3d683308bc59548a1ff18824a5ee3", func := "loop.example/lib-pathpatterns/laws.FnParts", spec := "fnParts", inPlace := ["internal/bytealg.IndexByteString", "internal/reflectlite.TypeOf", "internal/bytealg.IndexString", "internal/abi.NoEscape", "internal/bytealg.MakeNoZero"], unfollowed := true, recurses := true, named := ["path.ErrBadPattern", "unicode/utf8.first", "unicode/utf8.acceptRanges", "internal/bytealg.MaxLen"], apart := false, laid := [("unicode/utf8.acceptRanges", laid_unicode_utf8_acceptRanges), ("path.ErrBadPattern", laid_path_ErrBadPattern), ("unicode/utf8.first", laid_unicode_utf8_first)] }
def FnPartsSaid : Prop := fnPartsRow.holds Tryd.pinned (OpenSpec.ofChange fnPartsSpec)

/-- ITS FALSE NEIGHBOUR: 'it returns false'. Refute it at one input. -/
def fnPartsWrong : ChangeSpec := { name := "fnParts", fn := fun _ => fun
  | [d] => { results := [.lit (.bool false)], args := [d] }
  | _ => none }
def FnPartsWrongFalsely : Prop := fnPartsRow.holds Tryd.pinned (OpenSpec.ofChange fnPartsWrong)

/-- 'laws.FnDirMatch': WHATEVER THE INPUT: true; the input reads as it did. -/
def fnDirMatchSpec : ChangeSpec := { name := "fnDirMatch", fn := fun _ => fun
  | [d] => { results := [.lit (.bool true)], args := [d] }
  | _ => none }
def fnDirMatchRow : OpenClaim := { program := "ytpmgemlfpihdbaadoor", sum := "4d69144a89cdcfcc3d2d3d1ba278a5470db3d683308bc59548a1ff18824a5ee3", func := "loop.example/lib-pathpatterns/laws.FnDirMatch", spec := "fnDirMatch", inPlace := ["internal/bytealg.IndexByteString", "internal/bytealg.IndexString", "internal/reflectlite.TypeOf"], unfollowed := true, recurses := true, named := ["unicode/utf8.first", "unicode/utf8.acceptRanges", "internal/bytealg.MaxLen", "path.ErrBadPattern"], apart := false, laid := [("unicode/utf8.acceptRanges", laid_unicode_utf8_acceptRanges), ("path.ErrBadPattern", laid_path_ErrBadPattern), ("unicode/utf8.first", laid_unicode_utf8_first)] }
def FnDirMatchSaid : Prop := fnDirMatchRow.holds Tryd.pinned (OpenSpec.ofChange fnDirMatchSpec)

/-- ITS FALSE NEIGHBOUR: 'it returns false'. Refute it at one input. -/
def fnDirMatchWrong : ChangeSpec := { name := "fnDirMatch", fn := fun _ => fun
  | [d] => { results := [.lit (.bool false)], args := [d] }
  | _ => none }
def FnDirMatchWrongFalsely : Prop := fnDirMatchRow.holds Tryd.pinned (OpenSpec.ofChange fnDirMatchWrong)

/-- 'laws.FnBaseStar': WHATEVER THE INPUT: true; the input reads as it did. -/
def fnBaseStarSpec : ChangeSpec := { name := "fnBaseStar", fn := fun _ => fun
  | [d] => { results := [.lit (.bool true)], args := [d] }
  | _ => none }
def fnBaseStarRow : OpenClaim := { program := "ytpmgemlfpihdbaadoor", sum := "4d69144a89cdcfcc3d2d3d1ba278a5470db3d683308bc59548a1ff18824a5ee3", func := "loop.example/lib-pathpatterns/laws.FnBaseStar", spec := "fnBaseStar", inPlace := ["internal/bytealg.IndexByteString", "internal/reflectlite.TypeOf", "internal/bytealg.IndexString"], unfollowed := true, recurses := true, named := ["unicode/utf8.first", "unicode/utf8.acceptRanges", "path.ErrBadPattern", "internal/bytealg.MaxLen"], apart := false, laid := [("unicode/utf8.acceptRanges", laid_unicode_utf8_acceptRanges), ("path.ErrBadPattern", laid_path_ErrBadPattern), ("unicode/utf8.first", laid_unicode_utf8_first)] }
def FnBaseStarSaid : Prop := fnBaseStarRow.holds Tryd.pinned (OpenSpec.ofChange fnBaseStarSpec)

/-- ITS FALSE NEIGHBOUR: 'it returns false'. Refute it at one input. -/
def fnBaseStarWrong : ChangeSpec := { name := "fnBaseStar", fn := fun _ => fun
  | [d] => { results := [.lit (.bool false)], args := [d] }
  | _ => none }
def FnBaseStarWrongFalsely : Prop := fnBaseStarRow.holds Tryd.pinned (OpenSpec.ofChange fnBaseStarWrong)

/-- 'laws.FnExactFails': WHATEVER THE INPUT: true; the input reads as it did. -/
def fnExactFailsSpec : ChangeSpec := { name := "fnExactFails", fn := fun _ => fun
  | [d1, d2] => { results := [.lit (.bool true)], args := [d1, d2] }
  | _ => none }
def fnExactFailsRow : OpenClaim := { program := "ytpmgemlfpihdbaadoor", sum := "4d69144a89cdcfcc3d2d3d1ba278a5470db3d683308bc59548a1ff18824a5ee3", func := "loop.example/lib-pathpatterns/laws.FnExactFails", spec := "fnExactFails", inPlace := ["internal/bytealg.IndexByteString"], named := ["unicode/utf8.first", "unicode/utf8.acceptRanges", "path.ErrBadPattern"], apart := false, laid := [("unicode/utf8.acceptRanges", laid_unicode_utf8_acceptRanges), ("path.ErrBadPattern", laid_path_ErrBadPattern), ("unicode/utf8.first", laid_unicode_utf8_first)] }
def FnExactFailsSaid : Prop := fnExactFailsRow.holds Tryd.pinned (OpenSpec.ofChange fnExactFailsSpec)

/-- ITS FALSE NEIGHBOUR: 'it returns false'. Refute it at one input. -/
def fnExactFailsWrong : ChangeSpec := { name := "fnExactFails", fn := fun _ => fun
  | [d1, d2] => { results := [.lit (.bool false)], args := [d1, d2] }
  | _ => none }
def FnExactFailsWrongFalsely : Prop := fnExactFailsRow.holds Tryd.pinned (OpenSpec.ofChange fnExactFailsWrong)

/-- 'laws.FnExactFailsCorner': WHATEVER THE INPUT: true; the input reads as it did. -/
def fnExactFailsCornerSpec : ChangeSpec := { name := "fnExactFailsCorner", fn := fun _ => fun
  | [d1, d2] => { results := [.lit (.bool true)], args := [d1, d2] }
  | _ => none }
def fnExactFailsCornerRow : OpenClaim := { program := "ytpmgemlfpihdbaadoor", sum := "4d69144a89cdcfcc3d2d3d1ba278a5470db3d683308bc59548a1ff18824a5ee3", func := "loop.example/lib-pathpatterns/laws.FnExactFailsCorner", spec := "fnExactFailsCorner", inPlace := ["internal/bytealg.IndexByteString"], named := ["unicode/utf8.first", "unicode/utf8.acceptRanges", "path.ErrBadPattern"], apart := false, laid := [("unicode/utf8.acceptRanges", laid_unicode_utf8_acceptRanges), ("path.ErrBadPattern", laid_path_ErrBadPattern), ("unicode/utf8.first", laid_unicode_utf8_first)] }
def FnExactFailsCornerSaid : Prop := fnExactFailsCornerRow.holds Tryd.pinned (OpenSpec.ofChange fnExactFailsCornerSpec)

/-- ITS FALSE NEIGHBOUR: 'it returns false'. Refute it at one input. -/
def fnExactFailsCornerWrong : ChangeSpec := { name := "fnExactFailsCorner", fn := fun _ => fun
  | [d1, d2] => { results := [.lit (.bool false)], args := [d1, d2] }
  | _ => none }
def FnExactFailsCornerWrongFalsely : Prop := fnExactFailsCornerRow.holds Tryd.pinned (OpenSpec.ofChange fnExactFailsCornerWrong)

/-- 'laws.FnExactMatch': WHATEVER THE INPUT: true; the input reads as it did. -/
def fnExactMatchSpec : ChangeSpec := { name := "fnExactMatch", fn := fun _ => fun
  | [d1, d2] => { results := [.lit (.bool true)], args := [d1, d2] }
  | _ => none }
def fnExactMatchRow : OpenClaim := { program := "ytpmgemlfpihdbaadoor", sum := "4d69144a89cdcfcc3d2d3d1ba278a5470db3d683308bc59548a1ff18824a5ee3", func := "loop.example/lib-pathpatterns/laws.FnExactMatch", spec := "fnExactMatch", inPlace := ["internal/bytealg.IndexByteString", "internal/bytealg.IndexString", "internal/reflectlite.TypeOf"], unfollowed := true, recurses := true, named := ["unicode/utf8.first", "unicode/utf8.acceptRanges", "internal/bytealg.MaxLen", "path.ErrBadPattern"], apart := false, laid := [("unicode/utf8.acceptRanges", laid_unicode_utf8_acceptRanges), ("path.ErrBadPattern", laid_path_ErrBadPattern), ("unicode/utf8.first", laid_unicode_utf8_first)] }
def FnExactMatchSaid : Prop := fnExactMatchRow.holds Tryd.pinned (OpenSpec.ofChange fnExactMatchSpec)

/-- ITS FALSE NEIGHBOUR: 'it returns false'. Refute it at one input. -/
def fnExactMatchWrong : ChangeSpec := { name := "fnExactMatch", fn := fun _ => fun
  | [d1, d2] => { results := [.lit (.bool false)], args := [d1, d2] }
  | _ => none }
def FnExactMatchWrongFalsely : Prop := fnExactMatchRow.holds Tryd.pinned (OpenSpec.ofChange fnExactMatchWrong)

/-- 'laws.FnJoinMatch': WHATEVER THE INPUT: true; the input reads as it did. -/
def fnJoinMatchSpec : ChangeSpec := { name := "fnJoinMatch", fn := fun _ => fun
  | [d] => { results := [.lit (.bool true)], args := [d] }
  | _ => none }
def fnJoinMatchRow : OpenClaim := { program := "ytpmgemlfpihdbaadoor", sum := "4d69144a89cdcfcc3d2d3d1ba278a5470db3d683308bc59548a1ff18824a5ee3", func := "loop.example/lib-pathpatterns/laws.FnJoinMatch", spec := "fnJoinMatch", inPlace := ["internal/bytealg.IndexByteString", "internal/reflectlite.TypeOf", "internal/bytealg.IndexString", "internal/abi.NoEscape", "internal/bytealg.MakeNoZero"], unfollowed := true, recurses := true, named := ["path.ErrBadPattern", "unicode/utf8.first", "unicode/utf8.acceptRanges", "internal/bytealg.MaxLen"], apart := false, laid := [("unicode/utf8.acceptRanges", laid_unicode_utf8_acceptRanges), ("path.ErrBadPattern", laid_path_ErrBadPattern), ("unicode/utf8.first", laid_unicode_utf8_first)] }
def FnJoinMatchSaid : Prop := fnJoinMatchRow.holds Tryd.pinned (OpenSpec.ofChange fnJoinMatchSpec)

/-- ITS FALSE NEIGHBOUR: 'it returns false'. Refute it at one input. -/
def fnJoinMatchWrong : ChangeSpec := { name := "fnJoinMatch", fn := fun _ => fun
  | [d] => { results := [.lit (.bool false)], args := [d] }
  | _ => none }
def FnJoinMatchWrongFalsely : Prop := fnJoinMatchRow.holds Tryd.pinned (OpenSpec.ofChange fnJoinMatchWrong)

/-- 'laws.FnAnyMany': WHATEVER THE INPUT: true; the input reads as it did. -/
def fnAnyManySpec : ChangeSpec := { name := "fnAnyMany", fn := fun _ => fun
  | [d] => { results := [.lit (.bool true)], args := [d] }
  | _ => none }
def fnAnyManyRow : OpenClaim := { program := "ytpmgemlfpihdbaadoor", sum := "4d69144a89cdcfcc3d2d3d1ba278a5470db3d683308bc59548a1ff18824a5ee3", func := "loop.example/lib-pathpatterns/laws.FnAnyMany", spec := "fnAnyMany", inPlace := ["internal/abi.NoEscape", "internal/bytealg.MakeNoZero", "internal/bytealg.IndexByteString", "internal/reflectlite.TypeOf", "internal/bytealg.IndexString"], unfollowed := true, recurses := true, named := ["unicode/utf8.first", "unicode/utf8.acceptRanges", "path.ErrBadPattern", "internal/bytealg.MaxLen"], apart := false, laid := [("unicode/utf8.acceptRanges", laid_unicode_utf8_acceptRanges), ("path.ErrBadPattern", laid_path_ErrBadPattern), ("unicode/utf8.first", laid_unicode_utf8_first)] }
def FnAnyManySaid : Prop := fnAnyManyRow.holds Tryd.pinned (OpenSpec.ofChange fnAnyManySpec)

/-- ITS FALSE NEIGHBOUR: 'it returns false'. Refute it at one input. -/
def fnAnyManyWrong : ChangeSpec := { name := "fnAnyMany", fn := fun _ => fun
  | [d] => { results := [.lit (.bool false)], args := [d] }
  | _ => none }
def FnAnyManyWrongFalsely : Prop := fnAnyManyRow.holds Tryd.pinned (OpenSpec.ofChange fnAnyManyWrong)

/- THE SECOND FORM. 'bulk': how many values and letters a reading holds, each counted each time it is reached (what is shared counts as often as it is met; a slice's spare places count too). A statement '..UptoSaid' is the law's where the arguments, and the package variables that the reading takes, are together of bulk at most 1048576: NARROWER than '..Said'. Prove '..Said' where nothing that the law and all that it calls make is longer than what came in: it says more and counts as full. Else prove '..UptoSaid'. A law counts once. -/
mutual
def uptoBulk {H : Type} : DataW H → Nat
  | .lit (.string bytes) => bytes.length + 1
  | .lit _ => 1
  | .nil => 1
  | .ptr d => uptoBulk d + 1
  | .slice elems spare => uptoBulkAll elems + uptoBulkAll spare + 1
  | .agg parts => uptoBulkAll parts + 1
  | .iface _ d => uptoBulk d + 1
  | .map entries => uptoBulkEntries entries + 1
  | .held _ => 1
def uptoBulkAll {H : Type} : List (DataW H) → Nat
  | [] => 0
  | d :: r => uptoBulk d + uptoBulkAll r
def uptoBulkEntries {H : Type} : List (Lit × DataW H) → Nat
  | [] => 0
  | x :: r => uptoBulkEntry x + uptoBulkEntries r
def uptoBulkEntry {H : Type} : Lit × DataW H → Nat
  | (.string bytes, d) => bytes.length + uptoBulk d + 1
  | (_, d) => uptoBulk d + 1
 end
def uptoSmall : (H : Type) → List (DataW H) → Bool := fun _ ds => decide (uptoBulkAll ds ≤ 1048576)
def OpenSpec.upto (s : _root_.Go.ChangeSpec) : _root_.Go.OpenSpec := { _root_.Go.OpenSpec.ofChange s with cond := some uptoSmall }

/-- 'laws.FnStarCount', WHERE WHAT IT READS IS OF BULK AT MOST 1048576: true; the input reads as it did. -/
def fnStarCountUptoRow : OpenClaim := { program := "ytpmgemlfpihdbaadoor", sum := "4d69144a89cdcfcc3d2d3d1ba278a5470db3d683308bc59548a1ff18824a5ee3", func := "loop.example/lib-pathpatterns/laws.FnStarCount", spec := "fnStarCount", inPlace := ["internal/bytealg.IndexByteString", "internal/reflectlite.TypeOf", "internal/bytealg.CountString", "internal/bytealg.IndexString"], unfollowed := true, recurses := true, named := ["unicode/utf8.first", "unicode/utf8.acceptRanges", "path.ErrBadPattern", "internal/bytealg.MaxLen"], apart := false, laid := [("unicode/utf8.acceptRanges", laid_unicode_utf8_acceptRanges), ("path.ErrBadPattern", laid_path_ErrBadPattern), ("unicode/utf8.first", laid_unicode_utf8_first)], narrowed := true }
def FnStarCountUptoSaid : Prop := fnStarCountUptoRow.holds Tryd.pinned (OpenSpec.upto fnStarCountSpec)

/-- 'laws.FnParts', WHERE WHAT IT READS IS OF BULK AT MOST 1048576: true; the input reads as it did. -/
def fnPartsUptoRow : OpenClaim := { program := "ytpmgemlfpihdbaadoor", sum := "4d69144a89cdcfcc3d2d3d1ba278a5470db3d683308bc59548a1ff18824a5ee3", func := "loop.example/lib-pathpatterns/laws.FnParts", spec := "fnParts", inPlace := ["internal/bytealg.IndexByteString", "internal/reflectlite.TypeOf", "internal/bytealg.IndexString", "internal/abi.NoEscape", "internal/bytealg.MakeNoZero"], unfollowed := true, recurses := true, named := ["path.ErrBadPattern", "unicode/utf8.first", "unicode/utf8.acceptRanges", "internal/bytealg.MaxLen"], apart := false, laid := [("unicode/utf8.acceptRanges", laid_unicode_utf8_acceptRanges), ("path.ErrBadPattern", laid_path_ErrBadPattern), ("unicode/utf8.first", laid_unicode_utf8_first)], narrowed := true }
def FnPartsUptoSaid : Prop := fnPartsUptoRow.holds Tryd.pinned (OpenSpec.upto fnPartsSpec)

/-- 'laws.FnDirMatch', WHERE WHAT IT READS IS OF BULK AT MOST 1048576: true; the input reads as it did. -/
def fnDirMatchUptoRow : OpenClaim := { program := "ytpmgemlfpihdbaadoor", sum := "4d69144a89cdcfcc3d2d3d1ba278a5470db3d683308bc59548a1ff18824a5ee3", func := "loop.example/lib-pathpatterns/laws.FnDirMatch", spec := "fnDirMatch", inPlace := ["internal/bytealg.IndexByteString", "internal/bytealg.IndexString", "internal/reflectlite.TypeOf"], unfollowed := true, recurses := true, named := ["unicode/utf8.first", "unicode/utf8.acceptRanges", "internal/bytealg.MaxLen", "path.ErrBadPattern"], apart := false, laid := [("unicode/utf8.acceptRanges", laid_unicode_utf8_acceptRanges), ("path.ErrBadPattern", laid_path_ErrBadPattern), ("unicode/utf8.first", laid_unicode_utf8_first)], narrowed := true }
def FnDirMatchUptoSaid : Prop := fnDirMatchUptoRow.holds Tryd.pinned (OpenSpec.upto fnDirMatchSpec)

/-- 'laws.FnBaseStar', WHERE WHAT IT READS IS OF BULK AT MOST 1048576: true; the input reads as it did. -/
def fnBaseStarUptoRow : OpenClaim := { program := "ytpmgemlfpihdbaadoor", sum := "4d69144a89cdcfcc3d2d3d1ba278a5470db3d683308bc59548a1ff18824a5ee3", func := "loop.example/lib-pathpatterns/laws.FnBaseStar", spec := "fnBaseStar", inPlace := ["internal/bytealg.IndexByteString", "internal/reflectlite.TypeOf", "internal/bytealg.IndexString"], unfollowed := true, recurses := true, named := ["unicode/utf8.first", "unicode/utf8.acceptRanges", "path.ErrBadPattern", "internal/bytealg.MaxLen"], apart := false, laid := [("unicode/utf8.acceptRanges", laid_unicode_utf8_acceptRanges), ("path.ErrBadPattern", laid_path_ErrBadPattern), ("unicode/utf8.first", laid_unicode_utf8_first)], narrowed := true }
def FnBaseStarUptoSaid : Prop := fnBaseStarUptoRow.holds Tryd.pinned (OpenSpec.upto fnBaseStarSpec)

/-- 'laws.FnExactFails', WHERE WHAT IT READS IS OF BULK AT MOST 1048576: true; the input reads as it did. -/
def fnExactFailsUptoRow : OpenClaim := { program := "ytpmgemlfpihdbaadoor", sum := "4d69144a89cdcfcc3d2d3d1ba278a5470db3d683308bc59548a1ff18824a5ee3", func := "loop.example/lib-pathpatterns/laws.FnExactFails", spec := "fnExactFails", inPlace := ["internal/bytealg.IndexByteString"], named := ["unicode/utf8.first", "unicode/utf8.acceptRanges", "path.ErrBadPattern"], apart := false, laid := [("unicode/utf8.acceptRanges", laid_unicode_utf8_acceptRanges), ("path.ErrBadPattern", laid_path_ErrBadPattern), ("unicode/utf8.first", laid_unicode_utf8_first)], narrowed := true }
def FnExactFailsUptoSaid : Prop := fnExactFailsUptoRow.holds Tryd.pinned (OpenSpec.upto fnExactFailsSpec)

/-- 'laws.FnExactFailsCorner', WHERE WHAT IT READS IS OF BULK AT MOST 1048576: true; the input reads as it did. -/
def fnExactFailsCornerUptoRow : OpenClaim := { program := "ytpmgemlfpihdbaadoor", sum := "4d69144a89cdcfcc3d2d3d1ba278a5470db3d683308bc59548a1ff18824a5ee3", func := "loop.example/lib-pathpatterns/laws.FnExactFailsCorner", spec := "fnExactFailsCorner", inPlace := ["internal/bytealg.IndexByteString"], named := ["unicode/utf8.first", "unicode/utf8.acceptRanges", "path.ErrBadPattern"], apart := false, laid := [("unicode/utf8.acceptRanges", laid_unicode_utf8_acceptRanges), ("path.ErrBadPattern", laid_path_ErrBadPattern), ("unicode/utf8.first", laid_unicode_utf8_first)], narrowed := true }
def FnExactFailsCornerUptoSaid : Prop := fnExactFailsCornerUptoRow.holds Tryd.pinned (OpenSpec.upto fnExactFailsCornerSpec)

/-- 'laws.FnExactMatch', WHERE WHAT IT READS IS OF BULK AT MOST 1048576: true; the input reads as it did. -/
def fnExactMatchUptoRow : OpenClaim := { program := "ytpmgemlfpihdbaadoor", sum := "4d69144a89cdcfcc3d2d3d1ba278a5470db3d683308bc59548a1ff18824a5ee3", func := "loop.example/lib-pathpatterns/laws.FnExactMatch", spec := "fnExactMatch", inPlace := ["internal/bytealg.IndexByteString", "internal/bytealg.IndexString", "internal/reflectlite.TypeOf"], unfollowed := true, recurses := true, named := ["unicode/utf8.first", "unicode/utf8.acceptRanges", "internal/bytealg.MaxLen", "path.ErrBadPattern"], apart := false, laid := [("unicode/utf8.acceptRanges", laid_unicode_utf8_acceptRanges), ("path.ErrBadPattern", laid_path_ErrBadPattern), ("unicode/utf8.first", laid_unicode_utf8_first)], narrowed := true }
def FnExactMatchUptoSaid : Prop := fnExactMatchUptoRow.holds Tryd.pinned (OpenSpec.upto fnExactMatchSpec)

/-- 'laws.FnJoinMatch', WHERE WHAT IT READS IS OF BULK AT MOST 1048576: true; the input reads as it did. -/
def fnJoinMatchUptoRow : OpenClaim := { program := "ytpmgemlfpihdbaadoor", sum := "4d69144a89cdcfcc3d2d3d1ba278a5470db3d683308bc59548a1ff18824a5ee3", func := "loop.example/lib-pathpatterns/laws.FnJoinMatch", spec := "fnJoinMatch", inPlace := ["internal/bytealg.IndexByteString", "internal/reflectlite.TypeOf", "internal/bytealg.IndexString", "internal/abi.NoEscape", "internal/bytealg.MakeNoZero"], unfollowed := true, recurses := true, named := ["path.ErrBadPattern", "unicode/utf8.first", "unicode/utf8.acceptRanges", "internal/bytealg.MaxLen"], apart := false, laid := [("unicode/utf8.acceptRanges", laid_unicode_utf8_acceptRanges), ("path.ErrBadPattern", laid_path_ErrBadPattern), ("unicode/utf8.first", laid_unicode_utf8_first)], narrowed := true }
def FnJoinMatchUptoSaid : Prop := fnJoinMatchUptoRow.holds Tryd.pinned (OpenSpec.upto fnJoinMatchSpec)

/-- 'laws.FnAnyMany', WHERE WHAT IT READS IS OF BULK AT MOST 1048576: true; the input reads as it did. -/
def fnAnyManyUptoRow : OpenClaim := { program := "ytpmgemlfpihdbaadoor", sum := "4d69144a89cdcfcc3d2d3d1ba278a5470db3d683308bc59548a1ff18824a5ee3", func := "loop.example/lib-pathpatterns/laws.FnAnyMany", spec := "fnAnyMany", inPlace := ["internal/abi.NoEscape", "internal/bytealg.MakeNoZero", "internal/bytealg.IndexByteString", "internal/reflectlite.TypeOf", "internal/bytealg.IndexString"], unfollowed := true, recurses := true, named := ["unicode/utf8.first", "unicode/utf8.acceptRanges", "path.ErrBadPattern", "internal/bytealg.MaxLen"], apart := false, laid := [("unicode/utf8.acceptRanges", laid_unicode_utf8_acceptRanges), ("path.ErrBadPattern", laid_path_ErrBadPattern), ("unicode/utf8.first", laid_unicode_utf8_first)], narrowed := true }
def FnAnyManyUptoSaid : Prop := fnAnyManyUptoRow.holds Tryd.pinned (OpenSpec.upto fnAnyManySpec)

end Rows
end Go.Proofs.YtpmgemlfpihdbaaDoor

/-
  NARROWER THAN 'FOR EVERY INPUT', by the rows' own cells (each row's printed sentence says how): FnClassUnion: laid · FnEmptyName: laid · FnExchanged: laid · FnMatchEscaped: laid · FnMatchSound: laid · FnMatchWritten: laid · FnNameLength: laid · FnNoStar: laid · FnPlainSelf: laid · FnQuoteHead: laid · FnQuoteSelf: laid · FnStarTwice: laid.
  DERIVED. THE GIVEN ROWS OF THIS SEAT. 12 by the template 'for every input the law returns true; each argument reads behind the call as it read before'; 0 by the template 'total and deterministic' (their statements: YtgpcnckiabjefaaDoorTotals.lean).
  GIVEN WITH THE SEED: the statements are not yours to turn. If you find one false, say at which input.
  Laid BY PROGRAM, IN A SANDBOX (cutbox-rows.mjs): the forced cells as the released guide's own fill.sh prints them over the translation 284d28cd19430416… (all of the seat's roots in one cut). By AI agents, Wed Nov 11 2026. No macro, syntax, notation, axiom, sorry.
-/
import Derived.Test.YtgpcnckiabjefaaDoorChecked
import GoSem.PinnedTables
import GoSem.Claim
import GoSem.ClaimJoined
import GoSem.ClaimMapViews
import Derived.JoinedTies
import Derived.KernelRfl
namespace Go.Proofs.YtgpcnckiabjefaaDoor
/- THE CELL 'sum', in the pinned program and in every row, IS THE sha256 OF THE DUMP (.gsa) THAT YtgpcnckiabjefaaDoorProg.lean LOADS. Nothing in Lean hashes anything: it is a label: what it is worth is what the hold of that sum in a sandbox is worth. -/
noncomputable def Tryd.pinned : Pinned := { name := "ytgpcnckiabjefaadoor", sum := "284d28cd194304163a70fe5ef5c3f547ba51ecb1abe2b8d2d642ec12d976d271", checked := Tryd.checked }
namespace Rows
def none {H : Type} : Left H := { results := [], args := [] }

/- WHAT THE LISTED PACKAGE-LEVEL VARIABLES READ AS WHEN THE CALL BEGINS. Each datum BY PROGRAM (the guide's laid-datum.mjs) off the statement by which the dump's own 'gosem.cut.vars' lays the variable. In a bare row this is a premise. The card (YtgpcnckiabjefaaDoorCards.lean) ties it to the program's text. -/
def laid_unicode_utf8_acceptRanges {H : Type} : DataW H := .agg [.agg [.lit (.int .u8 128), .lit (.int .u8 191)], .agg [.lit (.int .u8 160), .lit (.int .u8 191)], .agg [.lit (.int .u8 128), .lit (.int .u8 159)], .agg [.lit (.int .u8 144), .lit (.int .u8 191)], .agg [.lit (.int .u8 128), .lit (.int .u8 143)], .agg [.lit (.int .u8 0), .lit (.int .u8 0)], .agg [.lit (.int .u8 0), .lit (.int .u8 0)], .agg [.lit (.int .u8 0), .lit (.int .u8 0)], .agg [.lit (.int .u8 0), .lit (.int .u8 0)], .agg [.lit (.int .u8 0), .lit (.int .u8 0)], .agg [.lit (.int .u8 0), .lit (.int .u8 0)], .agg [.lit (.int .u8 0), .lit (.int .u8 0)], .agg [.lit (.int .u8 0), .lit (.int .u8 0)], .agg [.lit (.int .u8 0), .lit (.int .u8 0)], .agg [.lit (.int .u8 0), .lit (.int .u8 0)], .agg [.lit (.int .u8 0), .lit (.int .u8 0)]]
def laid_path_ErrBadPattern {H : Type} : DataW H := .iface "*errors.errorString" (.ptr (.agg [.lit (.string [115, 121, 110, 116, 97, 120, 32, 101, 114, 114, 111, 114, 32, 105, 110, 32, 112, 97, 116, 116, 101, 114, 110])]))
/-- One of Go's own tables, pinned by name: the form's constant. -/
def laid_unicode_utf8_first : DataW Unit := Go.Pinned.utf8First

/-- 'laws.FnClassUnion': WHATEVER THE INPUT: true; the input reads as it did. -/
def fnClassUnionSpec : ChangeSpec := { name := "fnClassUnion", fn := fun _ => fun
  | [d] => { results := [.lit (.bool true)], args := [d] }
  | _ => none }
def fnClassUnionRow : OpenClaim := { program := "ytgpcnckiabjefaadoor", sum := "284d28cd194304163a70fe5ef5c3f547ba51ecb1abe2b8d2d642ec12d976d271", func := "loop.example/lib-pathpatterns/laws.FnClassUnion", spec := "fnClassUnion", inPlace := ["internal/bytealg.IndexByteString", "internal/reflectlite.TypeOf"], unfollowed := true, recurses := true, named := ["path.ErrBadPattern", "unicode/utf8.first", "unicode/utf8.acceptRanges"], apart := false, laid := [("unicode/utf8.acceptRanges", laid_unicode_utf8_acceptRanges), ("path.ErrBadPattern", laid_path_ErrBadPattern), ("unicode/utf8.first", laid_unicode_utf8_first)] }
def FnClassUnionSaid : Prop := fnClassUnionRow.holds Tryd.pinned (OpenSpec.ofChange fnClassUnionSpec)

/-- ITS FALSE NEIGHBOUR: 'it returns false'. Refute it at one input. -/
def fnClassUnionWrong : ChangeSpec := { name := "fnClassUnion", fn := fun _ => fun
  | [d] => { results := [.lit (.bool false)], args := [d] }
  | _ => none }
def FnClassUnionWrongFalsely : Prop := fnClassUnionRow.holds Tryd.pinned (OpenSpec.ofChange fnClassUnionWrong)

/-- 'laws.FnEmptyName': WHATEVER THE INPUT: true; the input reads as it did. -/
def fnEmptyNameSpec : ChangeSpec := { name := "fnEmptyName", fn := fun _ => fun
  | [d] => { results := [.lit (.bool true)], args := [d] }
  | _ => none }
def fnEmptyNameRow : OpenClaim := { program := "ytgpcnckiabjefaadoor", sum := "284d28cd194304163a70fe5ef5c3f547ba51ecb1abe2b8d2d642ec12d976d271", func := "loop.example/lib-pathpatterns/laws.FnEmptyName", spec := "fnEmptyName", inPlace := ["internal/bytealg.IndexByteString", "internal/reflectlite.TypeOf"], unfollowed := true, recurses := true, named := ["unicode/utf8.first", "unicode/utf8.acceptRanges", "path.ErrBadPattern"], apart := false, laid := [("unicode/utf8.acceptRanges", laid_unicode_utf8_acceptRanges), ("path.ErrBadPattern", laid_path_ErrBadPattern), ("unicode/utf8.first", laid_unicode_utf8_first)] }
def FnEmptyNameSaid : Prop := fnEmptyNameRow.holds Tryd.pinned (OpenSpec.ofChange fnEmptyNameSpec)

/-- ITS FALSE NEIGHBOUR: 'it returns false'. Refute it at one input. -/
def fnEmptyNameWrong : ChangeSpec := { name := "fnEmptyName", fn := fun _ => fun
  | [d] => { results := [.lit (.bool false)], args := [d] }
  | _ => none }
def FnEmptyNameWrongFalsely : Prop := fnEmptyNameRow.holds Tryd.pinned (OpenSpec.ofChange fnEmptyNameWrong)

/-- 'laws.FnExchanged': WHATEVER THE INPUT: true; the input reads as it did. -/
def fnExchangedSpec : ChangeSpec := { name := "fnExchanged", fn := fun _ => fun
  | [d] => { results := [.lit (.bool true)], args := [d] }
  | _ => none }
def fnExchangedRow : OpenClaim := { program := "ytgpcnckiabjefaadoor", sum := "284d28cd194304163a70fe5ef5c3f547ba51ecb1abe2b8d2d642ec12d976d271", func := "loop.example/lib-pathpatterns/laws.FnExchanged", spec := "fnExchanged", inPlace := ["internal/bytealg.IndexByteString", "internal/reflectlite.TypeOf"], unfollowed := true, recurses := true, named := ["path.ErrBadPattern", "unicode/utf8.first", "unicode/utf8.acceptRanges"], apart := false, laid := [("unicode/utf8.acceptRanges", laid_unicode_utf8_acceptRanges), ("path.ErrBadPattern", laid_path_ErrBadPattern), ("unicode/utf8.first", laid_unicode_utf8_first)] }
def FnExchangedSaid : Prop := fnExchangedRow.holds Tryd.pinned (OpenSpec.ofChange fnExchangedSpec)

/-- ITS FALSE NEIGHBOUR: 'it returns false'. Refute it at one input. -/
def fnExchangedWrong : ChangeSpec := { name := "fnExchanged", fn := fun _ => fun
  | [d] => { results := [.lit (.bool false)], args := [d] }
  | _ => none }
def FnExchangedWrongFalsely : Prop := fnExchangedRow.holds Tryd.pinned (OpenSpec.ofChange fnExchangedWrong)

/-- 'laws.FnMatchEscaped': WHATEVER THE INPUT: true; the input reads as it did. -/
def fnMatchEscapedSpec : ChangeSpec := { name := "fnMatchEscaped", fn := fun _ => fun
  | [d] => { results := [.lit (.bool true)], args := [d] }
  | _ => none }
def fnMatchEscapedRow : OpenClaim := { program := "ytgpcnckiabjefaadoor", sum := "284d28cd194304163a70fe5ef5c3f547ba51ecb1abe2b8d2d642ec12d976d271", func := "loop.example/lib-pathpatterns/laws.FnMatchEscaped", spec := "fnMatchEscaped", inPlace := ["internal/bytealg.IndexByteString", "internal/reflectlite.TypeOf"], unfollowed := true, recurses := true, named := ["path.ErrBadPattern", "unicode/utf8.first", "unicode/utf8.acceptRanges"], apart := false, laid := [("unicode/utf8.acceptRanges", laid_unicode_utf8_acceptRanges), ("path.ErrBadPattern", laid_path_ErrBadPattern), ("unicode/utf8.first", laid_unicode_utf8_first)] }
def FnMatchEscapedSaid : Prop := fnMatchEscapedRow.holds Tryd.pinned (OpenSpec.ofChange fnMatchEscapedSpec)

/-- ITS FALSE NEIGHBOUR: 'it returns false'. Refute it at one input. -/
def fnMatchEscapedWrong : ChangeSpec := { name := "fnMatchEscaped", fn := fun _ => fun
  | [d] => { results := [.lit (.bool false)], args := [d] }
  | _ => none }
def FnMatchEscapedWrongFalsely : Prop := fnMatchEscapedRow.holds Tryd.pinned (OpenSpec.ofChange fnMatchEscapedWrong)

/-- 'laws.FnMatchSound': WHATEVER THE INPUT: true; the input reads as it did. -/
def fnMatchSoundSpec : ChangeSpec := { name := "fnMatchSound", fn := fun _ => fun
  | [d] => { results := [.lit (.bool true)], args := [d] }
  | _ => none }
def fnMatchSoundRow : OpenClaim := { program := "ytgpcnckiabjefaadoor", sum := "284d28cd194304163a70fe5ef5c3f547ba51ecb1abe2b8d2d642ec12d976d271", func := "loop.example/lib-pathpatterns/laws.FnMatchSound", spec := "fnMatchSound", inPlace := ["internal/bytealg.IndexByteString", "internal/reflectlite.TypeOf"], unfollowed := true, recurses := true, named := ["path.ErrBadPattern", "unicode/utf8.first", "unicode/utf8.acceptRanges"], apart := false, laid := [("unicode/utf8.acceptRanges", laid_unicode_utf8_acceptRanges), ("path.ErrBadPattern", laid_path_ErrBadPattern), ("unicode/utf8.first", laid_unicode_utf8_first)] }
def FnMatchSoundSaid : Prop := fnMatchSoundRow.holds Tryd.pinned (OpenSpec.ofChange fnMatchSoundSpec)

/-- ITS FALSE NEIGHBOUR: 'it returns false'. Refute it at one input. -/
def fnMatchSoundWrong : ChangeSpec := { name := "fnMatchSound", fn := fun _ => fun
  | [d] => { results := [.lit (.bool false)], args := [d] }
  | _ => none }
def FnMatchSoundWrongFalsely : Prop := fnMatchSoundRow.holds Tryd.pinned (OpenSpec.ofChange fnMatchSoundWrong)

/-- 'laws.FnMatchWritten': WHATEVER THE INPUT: true; the input reads as it did. -/
def fnMatchWrittenSpec : ChangeSpec := { name := "fnMatchWritten", fn := fun _ => fun
  | [d] => { results := [.lit (.bool true)], args := [d] }
  | _ => none }
def fnMatchWrittenRow : OpenClaim := { program := "ytgpcnckiabjefaadoor", sum := "284d28cd194304163a70fe5ef5c3f547ba51ecb1abe2b8d2d642ec12d976d271", func := "loop.example/lib-pathpatterns/laws.FnMatchWritten", spec := "fnMatchWritten", inPlace := ["internal/bytealg.IndexByteString", "internal/reflectlite.TypeOf"], unfollowed := true, recurses := true, named := ["path.ErrBadPattern", "unicode/utf8.first", "unicode/utf8.acceptRanges"], apart := false, laid := [("unicode/utf8.acceptRanges", laid_unicode_utf8_acceptRanges), ("path.ErrBadPattern", laid_path_ErrBadPattern), ("unicode/utf8.first", laid_unicode_utf8_first)] }
def FnMatchWrittenSaid : Prop := fnMatchWrittenRow.holds Tryd.pinned (OpenSpec.ofChange fnMatchWrittenSpec)

/-- ITS FALSE NEIGHBOUR: 'it returns false'. Refute it at one input. -/
def fnMatchWrittenWrong : ChangeSpec := { name := "fnMatchWritten", fn := fun _ => fun
  | [d] => { results := [.lit (.bool false)], args := [d] }
  | _ => none }
def FnMatchWrittenWrongFalsely : Prop := fnMatchWrittenRow.holds Tryd.pinned (OpenSpec.ofChange fnMatchWrittenWrong)

/-- 'laws.FnNameLength': WHATEVER THE INPUT: true; the input reads as it did. -/
def fnNameLengthSpec : ChangeSpec := { name := "fnNameLength", fn := fun _ => fun
  | [d] => { results := [.lit (.bool true)], args := [d] }
  | _ => none }
def fnNameLengthRow : OpenClaim := { program := "ytgpcnckiabjefaadoor", sum := "284d28cd194304163a70fe5ef5c3f547ba51ecb1abe2b8d2d642ec12d976d271", func := "loop.example/lib-pathpatterns/laws.FnNameLength", spec := "fnNameLength", inPlace := ["internal/bytealg.IndexByteString", "internal/reflectlite.TypeOf"], unfollowed := true, recurses := true, named := ["path.ErrBadPattern", "unicode/utf8.first", "unicode/utf8.acceptRanges"], apart := false, laid := [("unicode/utf8.acceptRanges", laid_unicode_utf8_acceptRanges), ("path.ErrBadPattern", laid_path_ErrBadPattern), ("unicode/utf8.first", laid_unicode_utf8_first)] }
def FnNameLengthSaid : Prop := fnNameLengthRow.holds Tryd.pinned (OpenSpec.ofChange fnNameLengthSpec)

/-- ITS FALSE NEIGHBOUR: 'it returns false'. Refute it at one input. -/
def fnNameLengthWrong : ChangeSpec := { name := "fnNameLength", fn := fun _ => fun
  | [d] => { results := [.lit (.bool false)], args := [d] }
  | _ => none }
def FnNameLengthWrongFalsely : Prop := fnNameLengthRow.holds Tryd.pinned (OpenSpec.ofChange fnNameLengthWrong)

/-- 'laws.FnNoStar': WHATEVER THE INPUT: true; the input reads as it did. -/
def fnNoStarSpec : ChangeSpec := { name := "fnNoStar", fn := fun _ => fun
  | [d] => { results := [.lit (.bool true)], args := [d] }
  | _ => none }
def fnNoStarRow : OpenClaim := { program := "ytgpcnckiabjefaadoor", sum := "284d28cd194304163a70fe5ef5c3f547ba51ecb1abe2b8d2d642ec12d976d271", func := "loop.example/lib-pathpatterns/laws.FnNoStar", spec := "fnNoStar", inPlace := ["internal/bytealg.IndexByteString", "internal/reflectlite.TypeOf"], unfollowed := true, recurses := true, named := ["unicode/utf8.first", "unicode/utf8.acceptRanges", "path.ErrBadPattern"], apart := false, laid := [("unicode/utf8.acceptRanges", laid_unicode_utf8_acceptRanges), ("path.ErrBadPattern", laid_path_ErrBadPattern), ("unicode/utf8.first", laid_unicode_utf8_first)] }
def FnNoStarSaid : Prop := fnNoStarRow.holds Tryd.pinned (OpenSpec.ofChange fnNoStarSpec)

/-- ITS FALSE NEIGHBOUR: 'it returns false'. Refute it at one input. -/
def fnNoStarWrong : ChangeSpec := { name := "fnNoStar", fn := fun _ => fun
  | [d] => { results := [.lit (.bool false)], args := [d] }
  | _ => none }
def FnNoStarWrongFalsely : Prop := fnNoStarRow.holds Tryd.pinned (OpenSpec.ofChange fnNoStarWrong)

/-- 'laws.FnPlainSelf': WHATEVER THE INPUT: true; the input reads as it did. -/
def fnPlainSelfSpec : ChangeSpec := { name := "fnPlainSelf", fn := fun _ => fun
  | [d] => { results := [.lit (.bool true)], args := [d] }
  | _ => none }
def fnPlainSelfRow : OpenClaim := { program := "ytgpcnckiabjefaadoor", sum := "284d28cd194304163a70fe5ef5c3f547ba51ecb1abe2b8d2d642ec12d976d271", func := "loop.example/lib-pathpatterns/laws.FnPlainSelf", spec := "fnPlainSelf", inPlace := ["internal/bytealg.IndexByteString", "internal/reflectlite.TypeOf"], unfollowed := true, recurses := true, named := ["unicode/utf8.first", "unicode/utf8.acceptRanges", "path.ErrBadPattern"], apart := false, laid := [("unicode/utf8.acceptRanges", laid_unicode_utf8_acceptRanges), ("path.ErrBadPattern", laid_path_ErrBadPattern), ("unicode/utf8.first", laid_unicode_utf8_first)] }
def FnPlainSelfSaid : Prop := fnPlainSelfRow.holds Tryd.pinned (OpenSpec.ofChange fnPlainSelfSpec)

/-- ITS FALSE NEIGHBOUR: 'it returns false'. Refute it at one input. -/
def fnPlainSelfWrong : ChangeSpec := { name := "fnPlainSelf", fn := fun _ => fun
  | [d] => { results := [.lit (.bool false)], args := [d] }
  | _ => none }
def FnPlainSelfWrongFalsely : Prop := fnPlainSelfRow.holds Tryd.pinned (OpenSpec.ofChange fnPlainSelfWrong)

/-- 'laws.FnQuoteHead': WHATEVER THE INPUT: true; the input reads as it did. -/
def fnQuoteHeadSpec : ChangeSpec := { name := "fnQuoteHead", fn := fun _ => fun
  | [d] => { results := [.lit (.bool true)], args := [d] }
  | _ => none }
def fnQuoteHeadRow : OpenClaim := { program := "ytgpcnckiabjefaadoor", sum := "284d28cd194304163a70fe5ef5c3f547ba51ecb1abe2b8d2d642ec12d976d271", func := "loop.example/lib-pathpatterns/laws.FnQuoteHead", spec := "fnQuoteHead", inPlace := ["internal/bytealg.IndexByteString", "internal/reflectlite.TypeOf"], unfollowed := true, recurses := true, named := ["path.ErrBadPattern", "unicode/utf8.first", "unicode/utf8.acceptRanges"], apart := false, laid := [("unicode/utf8.acceptRanges", laid_unicode_utf8_acceptRanges), ("path.ErrBadPattern", laid_path_ErrBadPattern), ("unicode/utf8.first", laid_unicode_utf8_first)] }
def FnQuoteHeadSaid : Prop := fnQuoteHeadRow.holds Tryd.pinned (OpenSpec.ofChange fnQuoteHeadSpec)

/-- ITS FALSE NEIGHBOUR: 'it returns false'. Refute it at one input. -/
def fnQuoteHeadWrong : ChangeSpec := { name := "fnQuoteHead", fn := fun _ => fun
  | [d] => { results := [.lit (.bool false)], args := [d] }
  | _ => none }
def FnQuoteHeadWrongFalsely : Prop := fnQuoteHeadRow.holds Tryd.pinned (OpenSpec.ofChange fnQuoteHeadWrong)

/-- 'laws.FnQuoteSelf': WHATEVER THE INPUT: true; the input reads as it did. -/
def fnQuoteSelfSpec : ChangeSpec := { name := "fnQuoteSelf", fn := fun _ => fun
  | [d] => { results := [.lit (.bool true)], args := [d] }
  | _ => none }
def fnQuoteSelfRow : OpenClaim := { program := "ytgpcnckiabjefaadoor", sum := "284d28cd194304163a70fe5ef5c3f547ba51ecb1abe2b8d2d642ec12d976d271", func := "loop.example/lib-pathpatterns/laws.FnQuoteSelf", spec := "fnQuoteSelf", inPlace := ["internal/bytealg.IndexByteString", "internal/reflectlite.TypeOf"], unfollowed := true, recurses := true, named := ["unicode/utf8.first", "unicode/utf8.acceptRanges", "path.ErrBadPattern"], apart := false, laid := [("unicode/utf8.acceptRanges", laid_unicode_utf8_acceptRanges), ("path.ErrBadPattern", laid_path_ErrBadPattern), ("unicode/utf8.first", laid_unicode_utf8_first)] }
def FnQuoteSelfSaid : Prop := fnQuoteSelfRow.holds Tryd.pinned (OpenSpec.ofChange fnQuoteSelfSpec)

/-- ITS FALSE NEIGHBOUR: 'it returns false'. Refute it at one input. -/
def fnQuoteSelfWrong : ChangeSpec := { name := "fnQuoteSelf", fn := fun _ => fun
  | [d] => { results := [.lit (.bool false)], args := [d] }
  | _ => none }
def FnQuoteSelfWrongFalsely : Prop := fnQuoteSelfRow.holds Tryd.pinned (OpenSpec.ofChange fnQuoteSelfWrong)

/-- 'laws.FnStarTwice': WHATEVER THE INPUT: true; the input reads as it did. -/
def fnStarTwiceSpec : ChangeSpec := { name := "fnStarTwice", fn := fun _ => fun
  | [d] => { results := [.lit (.bool true)], args := [d] }
  | _ => none }
def fnStarTwiceRow : OpenClaim := { program := "ytgpcnckiabjefaadoor", sum := "284d28cd194304163a70fe5ef5c3f547ba51ecb1abe2b8d2d642ec12d976d271", func := "loop.example/lib-pathpatterns/laws.FnStarTwice", spec := "fnStarTwice", inPlace := ["internal/bytealg.IndexByteString", "internal/reflectlite.TypeOf"], unfollowed := true, recurses := true, named := ["path.ErrBadPattern", "unicode/utf8.first", "unicode/utf8.acceptRanges"], apart := false, laid := [("unicode/utf8.acceptRanges", laid_unicode_utf8_acceptRanges), ("path.ErrBadPattern", laid_path_ErrBadPattern), ("unicode/utf8.first", laid_unicode_utf8_first)] }
def FnStarTwiceSaid : Prop := fnStarTwiceRow.holds Tryd.pinned (OpenSpec.ofChange fnStarTwiceSpec)

/-- ITS FALSE NEIGHBOUR: 'it returns false'. Refute it at one input. -/
def fnStarTwiceWrong : ChangeSpec := { name := "fnStarTwice", fn := fun _ => fun
  | [d] => { results := [.lit (.bool false)], args := [d] }
  | _ => none }
def FnStarTwiceWrongFalsely : Prop := fnStarTwiceRow.holds Tryd.pinned (OpenSpec.ofChange fnStarTwiceWrong)

/- THE SECOND FORM. 'bulk': how many values and letters a reading holds, each counted each time it is reached (what is shared counts as often as it is met; a slice's spare places count too). A statement '..UptoSaid' is the law's where the arguments, and the package variables that the reading takes, are together of bulk at most 1048576: NARROWER than '..Said'. Prove '..Said' where nothing that the law and all that it calls make is longer than what came in: it says more and counts as full. Else prove '..UptoSaid'. A law counts once. -/
mutual
def uptoBulk {H : Type} : DataW H → Nat
  | .lit (.string bytes) => bytes.length + 1
  | .lit _ => 1
  | .nil => 1
  | .ptr d => uptoBulk d + 1
  | .slice elems spare => uptoBulkAll elems + uptoBulkAll spare + 1
  | .agg parts => uptoBulkAll parts + 1
  | .iface _ d => uptoBulk d + 1
  | .map entries => uptoBulkEntries entries + 1
  | .held _ => 1
def uptoBulkAll {H : Type} : List (DataW H) → Nat
  | [] => 0
  | d :: r => uptoBulk d + uptoBulkAll r
def uptoBulkEntries {H : Type} : List (Lit × DataW H) → Nat
  | [] => 0
  | x :: r => uptoBulkEntry x + uptoBulkEntries r
def uptoBulkEntry {H : Type} : Lit × DataW H → Nat
  | (.string bytes, d) => bytes.length + uptoBulk d + 1
  | (_, d) => uptoBulk d + 1
 end
def uptoSmall : (H : Type) → List (DataW H) → Bool := fun _ ds => decide (uptoBulkAll ds ≤ 1048576)
def OpenSpec.upto (s : _root_.Go.ChangeSpec) : _root_.Go.OpenSpec := { _root_.Go.OpenSpec.ofChange s with cond := some uptoSmall }

/-- 'laws.FnClassUnion', WHERE WHAT IT READS IS OF BULK AT MOST 1048576: true; the input reads as it did. -/
def fnClassUnionUptoRow : OpenClaim := { program := "ytgpcnckiabjefaadoor", sum := "284d28cd194304163a70fe5ef5c3f547ba51ecb1abe2b8d2d642ec12d976d271", func := "loop.example/lib-pathpatterns/laws.FnClassUnion", spec := "fnClassUnion", inPlace := ["internal/bytealg.IndexByteString", "internal/reflectlite.TypeOf"], unfollowed := true, recurses := true, named := ["path.ErrBadPattern", "unicode/utf8.first", "unicode/utf8.acceptRanges"], apart := false, laid := [("unicode/utf8.acceptRanges", laid_unicode_utf8_acceptRanges), ("path.ErrBadPattern", laid_path_ErrBadPattern), ("unicode/utf8.first", laid_unicode_utf8_first)], narrowed := true }
def FnClassUnionUptoSaid : Prop := fnClassUnionUptoRow.holds Tryd.pinned (OpenSpec.upto fnClassUnionSpec)

/-- 'laws.FnEmptyName', WHERE WHAT IT READS IS OF BULK AT MOST 1048576: true; the input reads as it did. -/
def fnEmptyNameUptoRow : OpenClaim := { program := "ytgpcnckiabjefaadoor", sum := "284d28cd194304163a70fe5ef5c3f547ba51ecb1abe2b8d2d642ec12d976d271", func := "loop.example/lib-pathpatterns/laws.FnEmptyName", spec := "fnEmptyName", inPlace := ["internal/bytealg.IndexByteString", "internal/reflectlite.TypeOf"], unfollowed := true, recurses := true, named := ["unicode/utf8.first", "unicode/utf8.acceptRanges", "path.ErrBadPattern"], apart := false, laid := [("unicode/utf8.acceptRanges", laid_unicode_utf8_acceptRanges), ("path.ErrBadPattern", laid_path_ErrBadPattern), ("unicode/utf8.first", laid_unicode_utf8_first)], narrowed := true }
def FnEmptyNameUptoSaid : Prop := fnEmptyNameUptoRow.holds Tryd.pinned (OpenSpec.upto fnEmptyNameSpec)

/-- 'laws.FnExchanged', WHERE WHAT IT READS IS OF BULK AT MOST 1048576: true; the input reads as it did. -/
def fnExchangedUptoRow : OpenClaim := { program := "ytgpcnckiabjefaadoor", sum := "284d28cd194304163a70fe5ef5c3f547ba51ecb1abe2b8d2d642ec12d976d271", func := "loop.example/lib-pathpatterns/laws.FnExchanged", spec := "fnExchanged", inPlace := ["internal/bytealg.IndexByteString", "internal/reflectlite.TypeOf"], unfollowed := true, recurses := true, named := ["path.ErrBadPattern", "unicode/utf8.first", "unicode/utf8.acceptRanges"], apart := false, laid := [("unicode/utf8.acceptRanges", laid_unicode_utf8_acceptRanges), ("path.ErrBadPattern", laid_path_ErrBadPattern), ("unicode/utf8.first", laid_unicode_utf8_first)], narrowed := true }
def FnExchangedUptoSaid : Prop := fnExchangedUptoRow.holds Tryd.pinned (OpenSpec.upto fnExchangedSpec)

/-- 'laws.FnMatchEscaped', WHERE WHAT IT READS IS OF BULK AT MOST 1048576: true; the input reads as it did. -/
def fnMatchEscapedUptoRow : OpenClaim := { program := "ytgpcnckiabjefaadoor", sum := "284d28cd194304163a70fe5ef5c3f547ba51ecb1abe2b8d2d642ec12d976d271", func := "loop.example/lib-pathpatterns/laws.FnMatchEscaped", spec := "fnMatchEscaped", inPlace := ["internal/bytealg.IndexByteString", "internal/reflectlite.TypeOf"], unfollowed := true, recurses := true, named := ["path.ErrBadPattern", "unicode/utf8.first", "unicode/utf8.acceptRanges"], apart := false, laid := [("unicode/utf8.acceptRanges", laid_unicode_utf8_acceptRanges), ("path.ErrBadPattern", laid_path_ErrBadPattern), ("unicode/utf8.first", laid_unicode_utf8_first)], narrowed := true }
def FnMatchEscapedUptoSaid : Prop := fnMatchEscapedUptoRow.holds Tryd.pinned (OpenSpec.upto fnMatchEscapedSpec)

/-- 'laws.FnMatchSound', WHERE WHAT IT READS IS OF BULK AT MOST 1048576: true; the input reads as it did. -/
def fnMatchSoundUptoRow : OpenClaim := { program := "ytgpcnckiabjefaadoor", sum := "284d28cd194304163a70fe5ef5c3f547ba51ecb1abe2b8d2d642ec12d976d271", func := "loop.example/lib-pathpatterns/laws.FnMatchSound", spec := "fnMatchSound", inPlace := ["internal/bytealg.IndexByteString", "internal/reflectlite.TypeOf"], unfollowed := true, recurses := true, named := ["path.ErrBadPattern", "unicode/utf8.first", "unicode/utf8.acceptRanges"], apart := false, laid := [("unicode/utf8.acceptRanges", laid_unicode_utf8_acceptRanges), ("path.ErrBadPattern", laid_path_ErrBadPattern), ("unicode/utf8.first", laid_unicode_utf8_first)], narrowed := true }
def FnMatchSoundUptoSaid : Prop := fnMatchSoundUptoRow.holds Tryd.pinned (OpenSpec.upto fnMatchSoundSpec)

/-- 'laws.FnMatchWritten', WHERE WHAT IT READS IS OF BULK AT MOST 1048576: true; the input reads as it did. -/
def fnMatchWrittenUptoRow : OpenClaim := { program := "ytgpcnckiabjefaadoor", sum := "284d28cd194304163a70fe5ef5c3f547ba51ecb1abe2b8d2d642ec12d976d271", func := "loop.example/lib-pathpatterns/laws.FnMatchWritten", spec := "fnMatchWritten", inPlace := ["internal/bytealg.IndexByteString", "internal/reflectlite.TypeOf"], unfollowed := true, recurses := true, named := ["path.ErrBadPattern", "unicode/utf8.first", "unicode/utf8.acceptRanges"], apart := false, laid := [("unicode/utf8.acceptRanges", laid_unicode_utf8_acceptRanges), ("path.ErrBadPattern", laid_path_ErrBadPattern), ("unicode/utf8.first", laid_unicode_utf8_first)], narrowed := true }
def FnMatchWrittenUptoSaid : Prop := fnMatchWrittenUptoRow.holds Tryd.pinned (OpenSpec.upto fnMatchWrittenSpec)

/-- 'laws.FnNameLength', WHERE WHAT IT READS IS OF BULK AT MOST 1048576: true; the input reads as it did. -/
def fnNameLengthUptoRow : OpenClaim := { program := "ytgpcnckiabjefaadoor", sum := "284d28cd194304163a70fe5ef5c3f547ba51ecb1abe2b8d2d642ec12d976d271", func := "loop.example/lib-pathpatterns/laws.FnNameLength", spec := "fnNameLength", inPlace := ["internal/bytealg.IndexByteString", "internal/reflectlite.TypeOf"], unfollowed := true, recurses := true, named := ["path.ErrBadPattern", "unicode/utf8.first", "unicode/utf8.acceptRanges"], apart := false, laid := [("unicode/utf8.acceptRanges", laid_unicode_utf8_acceptRanges), ("path.ErrBadPattern", laid_path_ErrBadPattern), ("unicode/utf8.first", laid_unicode_utf8_first)], narrowed := true }
def FnNameLengthUptoSaid : Prop := fnNameLengthUptoRow.holds Tryd.pinned (OpenSpec.upto fnNameLengthSpec)

/-- 'laws.FnNoStar', WHERE WHAT IT READS IS OF BULK AT MOST 1048576: true; the input reads as it did. -/
def fnNoStarUptoRow : OpenClaim := { program := "ytgpcnckiabjefaadoor", sum := "284d28cd194304163a70fe5ef5c3f547ba51ecb1abe2b8d2d642ec12d976d271", func := "loop.example/lib-pathpatterns/laws.FnNoStar", spec := "fnNoStar", inPlace := ["internal/bytealg.IndexByteString", "internal/reflectlite.TypeOf"], unfollowed := true, recurses := true, named := ["unicode/utf8.first", "unicode/utf8.acceptRanges", "path.ErrBadPattern"], apart := false, laid := [("unicode/utf8.acceptRanges", laid_unicode_utf8_acceptRanges), ("path.ErrBadPattern", laid_path_ErrBadPattern), ("unicode/utf8.first", laid_unicode_utf8_first)], narrowed := true }
def FnNoStarUptoSaid : Prop := fnNoStarUptoRow.holds Tryd.pinned (OpenSpec.upto fnNoStarSpec)

/-- 'laws.FnPlainSelf', WHERE WHAT IT READS IS OF BULK AT MOST 1048576: true; the input reads as it did. -/
def fnPlainSelfUptoRow : OpenClaim := { program := "ytgpcnckiabjefaadoor", sum := "284d28cd194304163a70fe5ef5c3f547ba51ecb1abe2b8d2d642ec12d976d271", func := "loop.example/lib-pathpatterns/laws.FnPlainSelf", spec := "fnPlainSelf", inPlace := ["internal/bytealg.IndexByteString", "internal/reflectlite.TypeOf"], unfollowed := true, recurses := true, named := ["unicode/utf8.first", "unicode/utf8.acceptRanges", "path.ErrBadPattern"], apart := false, laid := [("unicode/utf8.acceptRanges", laid_unicode_utf8_acceptRanges), ("path.ErrBadPattern", laid_path_ErrBadPattern), ("unicode/utf8.first", laid_unicode_utf8_first)], narrowed := true }
def FnPlainSelfUptoSaid : Prop := fnPlainSelfUptoRow.holds Tryd.pinned (OpenSpec.upto fnPlainSelfSpec)

/-- 'laws.FnQuoteHead', WHERE WHAT IT READS IS OF BULK AT MOST 1048576: true; the input reads as it did. -/
def fnQuoteHeadUptoRow : OpenClaim := { program := "ytgpcnckiabjefaadoor", sum := "284d28cd194304163a70fe5ef5c3f547ba51ecb1abe2b8d2d642ec12d976d271", func := "loop.example/lib-pathpatterns/laws.FnQuoteHead", spec := "fnQuoteHead", inPlace := ["internal/bytealg.IndexByteString", "internal/reflectlite.TypeOf"], unfollowed := true, recurses := true, named := ["path.ErrBadPattern", "unicode/utf8.first", "unicode/utf8.acceptRanges"], apart := false, laid := [("unicode/utf8.acceptRanges", laid_unicode_utf8_acceptRanges), ("path.ErrBadPattern", laid_path_ErrBadPattern), ("unicode/utf8.first", laid_unicode_utf8_first)], narrowed := true }
def FnQuoteHeadUptoSaid : Prop := fnQuoteHeadUptoRow.holds Tryd.pinned (OpenSpec.upto fnQuoteHeadSpec)

/-- 'laws.FnQuoteSelf', WHERE WHAT IT READS IS OF BULK AT MOST 1048576: true; the input reads as it did. -/
def fnQuoteSelfUptoRow : OpenClaim := { program := "ytgpcnckiabjefaadoor", sum := "284d28cd194304163a70fe5ef5c3f547ba51ecb1abe2b8d2d642ec12d976d271", func := "loop.example/lib-pathpatterns/laws.FnQuoteSelf", spec := "fnQuoteSelf", inPlace := ["internal/bytealg.IndexByteString", "internal/reflectlite.TypeOf"], unfollowed := true, recurses := true, named := ["unicode/utf8.first", "unicode/utf8.acceptRanges", "path.ErrBadPattern"], apart := false, laid := [("unicode/utf8.acceptRanges", laid_unicode_utf8_acceptRanges), ("path.ErrBadPattern", laid_path_ErrBadPattern), ("unicode/utf8.first", laid_unicode_utf8_first)], narrowed := true }
def FnQuoteSelfUptoSaid : Prop := fnQuoteSelfUptoRow.holds Tryd.pinned (OpenSpec.upto fnQuoteSelfSpec)

/-- 'laws.FnStarTwice', WHERE WHAT IT READS IS OF BULK AT MOST 1048576: true; the input reads as it did. -/
def fnStarTwiceUptoRow : OpenClaim := { program := "ytgpcnckiabjefaadoor", sum := "284d28cd194304163a70fe5ef5c3f547ba51ecb1abe2b8d2d642ec12d976d271", func := "loop.example/lib-pathpatterns/laws.FnStarTwice", spec := "fnStarTwice", inPlace := ["internal/bytealg.IndexByteString", "internal/reflectlite.TypeOf"], unfollowed := true, recurses := true, named := ["path.ErrBadPattern", "unicode/utf8.first", "unicode/utf8.acceptRanges"], apart := false, laid := [("unicode/utf8.acceptRanges", laid_unicode_utf8_acceptRanges), ("path.ErrBadPattern", laid_path_ErrBadPattern), ("unicode/utf8.first", laid_unicode_utf8_first)], narrowed := true }
def FnStarTwiceUptoSaid : Prop := fnStarTwiceUptoRow.holds Tryd.pinned (OpenSpec.upto fnStarTwiceSpec)

end Rows
end Go.Proofs.YtgpcnckiabjefaaDoor

/-
  No cell of these rows narrows 'for every input' (looked for: loops, veiled, ifaces, maps, wideKeys, modest, calm, conditions, laid).
  DERIVED. THE GIVEN ROWS OF THIS SEAT. 11 by the template 'for every input the law returns true; each argument reads behind the call as it read before'; 0 by the template 'total and deterministic' (their statements: YtcnaedaonmbakaaTotals.lean).
  GIVEN WITH THE SEED: the statements are not yours to turn. If you find one false, say at which input.
  Laid BY PROGRAM, IN A SANDBOX (cutbox-rows.mjs): the forced cells as the released guide's own fill.sh prints them over the translation 77c389f6cb495afa… (all of the seat's roots in one cut). By AI agents, Wed Nov 11 2026. No macro, syntax, notation, axiom, sorry.
-/
import Derived.Test.YtcnaedaonmbakaaChecked
import GoSem.Claim
import GoSem.ClaimJoined
import GoSem.ClaimMapViews
import Derived.JoinedTies
import Derived.KernelRfl
namespace Go.Proofs.Ytcnaedaonmbakaa
/- THE CELL 'sum', in the pinned program and in every row, IS THE sha256 OF THE DUMP (.gsa) THAT YtcnaedaonmbakaaProg.lean LOADS. Nothing in Lean hashes anything: it is a label: what it is worth is what the hold of that sum in a sandbox is worth. -/
noncomputable def Try.pinned : Pinned := { name := "ytcnaedaonmbakaa", sum := "77c389f6cb495afa3dcea31a047c6c452715025ad0e232e2480e6e135d633a87", checked := Try.checked }
namespace Rows
def none {H : Type} : Left H := { results := [], args := [] }

/-- 'laws.FnExactIsAbs': WHATEVER THE INPUT: true; the input reads as it did. -/
def fnExactIsAbsSpec : ChangeSpec := { name := "fnExactIsAbs", fn := fun _ => fun
  | [d] => { results := [.lit (.bool true)], args := [d] }
  | _ => none }
def fnExactIsAbsRow : OpenClaim := { program := "ytcnaedaonmbakaa", sum := "77c389f6cb495afa3dcea31a047c6c452715025ad0e232e2480e6e135d633a87", func := "loop.example/lib-pathpatterns/laws.FnExactIsAbs", spec := "fnExactIsAbs", apart := false }
def FnExactIsAbsSaid : Prop := fnExactIsAbsRow.holds Try.pinned (OpenSpec.ofChange fnExactIsAbsSpec)

/-- ITS FALSE NEIGHBOUR: 'it returns false'. Refute it at one input. -/
def fnExactIsAbsWrong : ChangeSpec := { name := "fnExactIsAbs", fn := fun _ => fun
  | [d] => { results := [.lit (.bool false)], args := [d] }
  | _ => none }
def FnExactIsAbsWrongFalsely : Prop := fnExactIsAbsRow.holds Try.pinned (OpenSpec.ofChange fnExactIsAbsWrong)

/-- 'laws.FnExactSplit': WHATEVER THE INPUT: true; the input reads as it did. -/
def fnExactSplitSpec : ChangeSpec := { name := "fnExactSplit", fn := fun _ => fun
  | [d] => { results := [.lit (.bool true)], args := [d] }
  | _ => none }
def fnExactSplitRow : OpenClaim := { program := "ytcnaedaonmbakaa", sum := "77c389f6cb495afa3dcea31a047c6c452715025ad0e232e2480e6e135d633a87", func := "loop.example/lib-pathpatterns/laws.FnExactSplit", spec := "fnExactSplit", apart := false }
def FnExactSplitSaid : Prop := fnExactSplitRow.holds Try.pinned (OpenSpec.ofChange fnExactSplitSpec)

/-- ITS FALSE NEIGHBOUR: 'it returns false'. Refute it at one input. -/
def fnExactSplitWrong : ChangeSpec := { name := "fnExactSplit", fn := fun _ => fun
  | [d] => { results := [.lit (.bool false)], args := [d] }
  | _ => none }
def FnExactSplitWrongFalsely : Prop := fnExactSplitRow.holds Try.pinned (OpenSpec.ofChange fnExactSplitWrong)

/-- 'laws.FnExactExt': WHATEVER THE INPUT: true; the input reads as it did. -/
def fnExactExtSpec : ChangeSpec := { name := "fnExactExt", fn := fun _ => fun
  | [d] => { results := [.lit (.bool true)], args := [d] }
  | _ => none }
def fnExactExtRow : OpenClaim := { program := "ytcnaedaonmbakaa", sum := "77c389f6cb495afa3dcea31a047c6c452715025ad0e232e2480e6e135d633a87", func := "loop.example/lib-pathpatterns/laws.FnExactExt", spec := "fnExactExt", apart := false }
def FnExactExtSaid : Prop := fnExactExtRow.holds Try.pinned (OpenSpec.ofChange fnExactExtSpec)

/-- ITS FALSE NEIGHBOUR: 'it returns false'. Refute it at one input. -/
def fnExactExtWrong : ChangeSpec := { name := "fnExactExt", fn := fun _ => fun
  | [d] => { results := [.lit (.bool false)], args := [d] }
  | _ => none }
def FnExactExtWrongFalsely : Prop := fnExactExtRow.holds Try.pinned (OpenSpec.ofChange fnExactExtWrong)

/-- 'laws.FnJoinEmpty': WHATEVER THE INPUT: true; the input reads as it did. -/
def fnJoinEmptySpec : ChangeSpec := { name := "fnJoinEmpty", fn := fun _ => fun
  | [d] => { results := [.lit (.bool true)], args := [d] }
  | _ => none }
def fnJoinEmptyRow : OpenClaim := { program := "ytcnaedaonmbakaa", sum := "77c389f6cb495afa3dcea31a047c6c452715025ad0e232e2480e6e135d633a87", func := "loop.example/lib-pathpatterns/laws.FnJoinEmpty", spec := "fnJoinEmpty", apart := false }
def FnJoinEmptySaid : Prop := fnJoinEmptyRow.holds Try.pinned (OpenSpec.ofChange fnJoinEmptySpec)

/-- ITS FALSE NEIGHBOUR: 'it returns false'. Refute it at one input. -/
def fnJoinEmptyWrong : ChangeSpec := { name := "fnJoinEmpty", fn := fun _ => fun
  | [d] => { results := [.lit (.bool false)], args := [d] }
  | _ => none }
def FnJoinEmptyWrongFalsely : Prop := fnJoinEmptyRow.holds Try.pinned (OpenSpec.ofChange fnJoinEmptyWrong)

/-- 'laws.FnCleanTwice': WHATEVER THE INPUT: true; the input reads as it did. -/
def fnCleanTwiceSpec : ChangeSpec := { name := "fnCleanTwice", fn := fun _ => fun
  | [d] => { results := [.lit (.bool true)], args := [d] }
  | _ => none }
def fnCleanTwiceRow : OpenClaim := { program := "ytcnaedaonmbakaa", sum := "77c389f6cb495afa3dcea31a047c6c452715025ad0e232e2480e6e135d633a87", func := "loop.example/lib-pathpatterns/laws.FnCleanTwice", spec := "fnCleanTwice", apart := false }
def FnCleanTwiceSaid : Prop := fnCleanTwiceRow.holds Try.pinned (OpenSpec.ofChange fnCleanTwiceSpec)

/-- ITS FALSE NEIGHBOUR: 'it returns false'. Refute it at one input. -/
def fnCleanTwiceWrong : ChangeSpec := { name := "fnCleanTwice", fn := fun _ => fun
  | [d] => { results := [.lit (.bool false)], args := [d] }
  | _ => none }
def FnCleanTwiceWrongFalsely : Prop := fnCleanTwiceRow.holds Try.pinned (OpenSpec.ofChange fnCleanTwiceWrong)

/-- 'laws.FnJoinTwice': WHATEVER THE INPUT: true; the input reads as it did. -/
def fnJoinTwiceSpec : ChangeSpec := { name := "fnJoinTwice", fn := fun _ => fun
  | [d] => { results := [.lit (.bool true)], args := [d] }
  | _ => none }
def fnJoinTwiceRow : OpenClaim := { program := "ytcnaedaonmbakaa", sum := "77c389f6cb495afa3dcea31a047c6c452715025ad0e232e2480e6e135d633a87", func := "loop.example/lib-pathpatterns/laws.FnJoinTwice", spec := "fnJoinTwice", apart := false }
def FnJoinTwiceSaid : Prop := fnJoinTwiceRow.holds Try.pinned (OpenSpec.ofChange fnJoinTwiceSpec)

/-- ITS FALSE NEIGHBOUR: 'it returns false'. Refute it at one input. -/
def fnJoinTwiceWrong : ChangeSpec := { name := "fnJoinTwice", fn := fun _ => fun
  | [d] => { results := [.lit (.bool false)], args := [d] }
  | _ => none }
def FnJoinTwiceWrongFalsely : Prop := fnJoinTwiceRow.holds Try.pinned (OpenSpec.ofChange fnJoinTwiceWrong)

/-- 'laws.FnDirSplit': WHATEVER THE INPUT: true; the input reads as it did. -/
def fnDirSplitSpec : ChangeSpec := { name := "fnDirSplit", fn := fun _ => fun
  | [d] => { results := [.lit (.bool true)], args := [d] }
  | _ => none }
def fnDirSplitRow : OpenClaim := { program := "ytcnaedaonmbakaa", sum := "77c389f6cb495afa3dcea31a047c6c452715025ad0e232e2480e6e135d633a87", func := "loop.example/lib-pathpatterns/laws.FnDirSplit", spec := "fnDirSplit", apart := false }
def FnDirSplitSaid : Prop := fnDirSplitRow.holds Try.pinned (OpenSpec.ofChange fnDirSplitSpec)

/-- ITS FALSE NEIGHBOUR: 'it returns false'. Refute it at one input. -/
def fnDirSplitWrong : ChangeSpec := { name := "fnDirSplit", fn := fun _ => fun
  | [d] => { results := [.lit (.bool false)], args := [d] }
  | _ => none }
def FnDirSplitWrongFalsely : Prop := fnDirSplitRow.holds Try.pinned (OpenSpec.ofChange fnDirSplitWrong)

/-- 'laws.FnSplitJoin': WHATEVER THE INPUT: true; the input reads as it did. -/
def fnSplitJoinSpec : ChangeSpec := { name := "fnSplitJoin", fn := fun _ => fun
  | [d] => { results := [.lit (.bool true)], args := [d] }
  | _ => none }
def fnSplitJoinRow : OpenClaim := { program := "ytcnaedaonmbakaa", sum := "77c389f6cb495afa3dcea31a047c6c452715025ad0e232e2480e6e135d633a87", func := "loop.example/lib-pathpatterns/laws.FnSplitJoin", spec := "fnSplitJoin", apart := false }
def FnSplitJoinSaid : Prop := fnSplitJoinRow.holds Try.pinned (OpenSpec.ofChange fnSplitJoinSpec)

/-- ITS FALSE NEIGHBOUR: 'it returns false'. Refute it at one input. -/
def fnSplitJoinWrong : ChangeSpec := { name := "fnSplitJoin", fn := fun _ => fun
  | [d] => { results := [.lit (.bool false)], args := [d] }
  | _ => none }
def FnSplitJoinWrongFalsely : Prop := fnSplitJoinRow.holds Try.pinned (OpenSpec.ofChange fnSplitJoinWrong)

/-- 'laws.FnBaseSplit': WHATEVER THE INPUT: true; the input reads as it did. -/
def fnBaseSplitSpec : ChangeSpec := { name := "fnBaseSplit", fn := fun _ => fun
  | [d] => { results := [.lit (.bool true)], args := [d] }
  | _ => none }
def fnBaseSplitRow : OpenClaim := { program := "ytcnaedaonmbakaa", sum := "77c389f6cb495afa3dcea31a047c6c452715025ad0e232e2480e6e135d633a87", func := "loop.example/lib-pathpatterns/laws.FnBaseSplit", spec := "fnBaseSplit", apart := false }
def FnBaseSplitSaid : Prop := fnBaseSplitRow.holds Try.pinned (OpenSpec.ofChange fnBaseSplitSpec)

/-- ITS FALSE NEIGHBOUR: 'it returns false'. Refute it at one input. -/
def fnBaseSplitWrong : ChangeSpec := { name := "fnBaseSplit", fn := fun _ => fun
  | [d] => { results := [.lit (.bool false)], args := [d] }
  | _ => none }
def FnBaseSplitWrongFalsely : Prop := fnBaseSplitRow.holds Try.pinned (OpenSpec.ofChange fnBaseSplitWrong)

/-- 'laws.FnIsAbsKept': WHATEVER THE INPUT: true; the input reads as it did. -/
def fnIsAbsKeptSpec : ChangeSpec := { name := "fnIsAbsKept", fn := fun _ => fun
  | [d] => { results := [.lit (.bool true)], args := [d] }
  | _ => none }
def fnIsAbsKeptRow : OpenClaim := { program := "ytcnaedaonmbakaa", sum := "77c389f6cb495afa3dcea31a047c6c452715025ad0e232e2480e6e135d633a87", func := "loop.example/lib-pathpatterns/laws.FnIsAbsKept", spec := "fnIsAbsKept", apart := false }
def FnIsAbsKeptSaid : Prop := fnIsAbsKeptRow.holds Try.pinned (OpenSpec.ofChange fnIsAbsKeptSpec)

/-- ITS FALSE NEIGHBOUR: 'it returns false'. Refute it at one input. -/
def fnIsAbsKeptWrong : ChangeSpec := { name := "fnIsAbsKept", fn := fun _ => fun
  | [d] => { results := [.lit (.bool false)], args := [d] }
  | _ => none }
def FnIsAbsKeptWrongFalsely : Prop := fnIsAbsKeptRow.holds Try.pinned (OpenSpec.ofChange fnIsAbsKeptWrong)

/-- 'laws.FnCleanParts': WHATEVER THE INPUT: true; the input reads as it did. -/
def fnCleanPartsSpec : ChangeSpec := { name := "fnCleanParts", fn := fun _ => fun
  | [d] => { results := [.lit (.bool true)], args := [d] }
  | _ => none }
def fnCleanPartsRow : OpenClaim := { program := "ytcnaedaonmbakaa", sum := "77c389f6cb495afa3dcea31a047c6c452715025ad0e232e2480e6e135d633a87", func := "loop.example/lib-pathpatterns/laws.FnCleanParts", spec := "fnCleanParts", apart := false }
def FnCleanPartsSaid : Prop := fnCleanPartsRow.holds Try.pinned (OpenSpec.ofChange fnCleanPartsSpec)

/-- ITS FALSE NEIGHBOUR: 'it returns false'. Refute it at one input. -/
def fnCleanPartsWrong : ChangeSpec := { name := "fnCleanParts", fn := fun _ => fun
  | [d] => { results := [.lit (.bool false)], args := [d] }
  | _ => none }
def FnCleanPartsWrongFalsely : Prop := fnCleanPartsRow.holds Try.pinned (OpenSpec.ofChange fnCleanPartsWrong)

/- THE SECOND FORM. 'bulk': how many values and letters a reading holds, each counted each time it is reached (what is shared counts as often as it is met; a slice's spare places count too). A statement '..UptoSaid' is the law's where the arguments, and the package variables that the reading takes, are together of bulk at most 1048576: NARROWER than '..Said'. Prove '..Said' where nothing that the law and all that it calls make is longer than what came in: it says more and counts as full. Else prove '..UptoSaid'. A law counts once. -/
mutual
def uptoBulk {H : Type} : DataW H → Nat
  | .lit (.string bytes) => bytes.length + 1
  | .lit _ => 1
  | .nil => 1
  | .ptr d => uptoBulk d + 1
  | .slice elems spare => uptoBulkAll elems + uptoBulkAll spare + 1
  | .agg parts => uptoBulkAll parts + 1
  | .iface _ d => uptoBulk d + 1
  | .map entries => uptoBulkEntries entries + 1
  | .held _ => 1
def uptoBulkAll {H : Type} : List (DataW H) → Nat
  | [] => 0
  | d :: r => uptoBulk d + uptoBulkAll r
def uptoBulkEntries {H : Type} : List (Lit × DataW H) → Nat
  | [] => 0
  | x :: r => uptoBulkEntry x + uptoBulkEntries r
def uptoBulkEntry {H : Type} : Lit × DataW H → Nat
  | (.string bytes, d) => bytes.length + uptoBulk d + 1
  | (_, d) => uptoBulk d + 1
 end
def uptoSmall : (H : Type) → List (DataW H) → Bool := fun _ ds => decide (uptoBulkAll ds ≤ 1048576)
def OpenSpec.upto (s : _root_.Go.ChangeSpec) : _root_.Go.OpenSpec := { _root_.Go.OpenSpec.ofChange s with cond := some uptoSmall }

/-- 'laws.FnExactIsAbs', WHERE WHAT IT READS IS OF BULK AT MOST 1048576: true; the input reads as it did. -/
def fnExactIsAbsUptoRow : OpenClaim := { program := "ytcnaedaonmbakaa", sum := "77c389f6cb495afa3dcea31a047c6c452715025ad0e232e2480e6e135d633a87", func := "loop.example/lib-pathpatterns/laws.FnExactIsAbs", spec := "fnExactIsAbs", apart := false, narrowed := true }
def FnExactIsAbsUptoSaid : Prop := fnExactIsAbsUptoRow.holds Try.pinned (OpenSpec.upto fnExactIsAbsSpec)

/-- 'laws.FnExactSplit', WHERE WHAT IT READS IS OF BULK AT MOST 1048576: true; the input reads as it did. -/
def fnExactSplitUptoRow : OpenClaim := { program := "ytcnaedaonmbakaa", sum := "77c389f6cb495afa3dcea31a047c6c452715025ad0e232e2480e6e135d633a87", func := "loop.example/lib-pathpatterns/laws.FnExactSplit", spec := "fnExactSplit", apart := false, narrowed := true }
def FnExactSplitUptoSaid : Prop := fnExactSplitUptoRow.holds Try.pinned (OpenSpec.upto fnExactSplitSpec)

/-- 'laws.FnExactExt', WHERE WHAT IT READS IS OF BULK AT MOST 1048576: true; the input reads as it did. -/
def fnExactExtUptoRow : OpenClaim := { program := "ytcnaedaonmbakaa", sum := "77c389f6cb495afa3dcea31a047c6c452715025ad0e232e2480e6e135d633a87", func := "loop.example/lib-pathpatterns/laws.FnExactExt", spec := "fnExactExt", apart := false, narrowed := true }
def FnExactExtUptoSaid : Prop := fnExactExtUptoRow.holds Try.pinned (OpenSpec.upto fnExactExtSpec)

/-- 'laws.FnJoinEmpty', WHERE WHAT IT READS IS OF BULK AT MOST 1048576: true; the input reads as it did. -/
def fnJoinEmptyUptoRow : OpenClaim := { program := "ytcnaedaonmbakaa", sum := "77c389f6cb495afa3dcea31a047c6c452715025ad0e232e2480e6e135d633a87", func := "loop.example/lib-pathpatterns/laws.FnJoinEmpty", spec := "fnJoinEmpty", apart := false, narrowed := true }
def FnJoinEmptyUptoSaid : Prop := fnJoinEmptyUptoRow.holds Try.pinned (OpenSpec.upto fnJoinEmptySpec)

/-- 'laws.FnCleanTwice', WHERE WHAT IT READS IS OF BULK AT MOST 1048576: true; the input reads as it did. -/
def fnCleanTwiceUptoRow : OpenClaim := { program := "ytcnaedaonmbakaa", sum := "77c389f6cb495afa3dcea31a047c6c452715025ad0e232e2480e6e135d633a87", func := "loop.example/lib-pathpatterns/laws.FnCleanTwice", spec := "fnCleanTwice", apart := false, narrowed := true }
def FnCleanTwiceUptoSaid : Prop := fnCleanTwiceUptoRow.holds Try.pinned (OpenSpec.upto fnCleanTwiceSpec)

/-- 'laws.FnJoinTwice', WHERE WHAT IT READS IS OF BULK AT MOST 1048576: true; the input reads as it did. -/
def fnJoinTwiceUptoRow : OpenClaim := { program := "ytcnaedaonmbakaa", sum := "77c389f6cb495afa3dcea31a047c6c452715025ad0e232e2480e6e135d633a87", func := "loop.example/lib-pathpatterns/laws.FnJoinTwice", spec := "fnJoinTwice", apart := false, narrowed := true }
def FnJoinTwiceUptoSaid : Prop := fnJoinTwiceUptoRow.holds Try.pinned (OpenSpec.upto fnJoinTwiceSpec)

/-- 'laws.FnDirSplit', WHERE WHAT IT READS IS OF BULK AT MOST 1048576: true; the input reads as it did. -/
def fnDirSplitUptoRow : OpenClaim := { program := "ytcnaedaonmbakaa", sum := "77c389f6cb495afa3dcea31a047c6c452715025ad0e232e2480e6e135d633a87", func := "loop.example/lib-pathpatterns/laws.FnDirSplit", spec := "fnDirSplit", apart := false, narrowed := true }
def FnDirSplitUptoSaid : Prop := fnDirSplitUptoRow.holds Try.pinned (OpenSpec.upto fnDirSplitSpec)

/-- 'laws.FnSplitJoin', WHERE WHAT IT READS IS OF BULK AT MOST 1048576: true; the input reads as it did. -/
def fnSplitJoinUptoRow : OpenClaim := { program := "ytcnaedaonmbakaa", sum := "77c389f6cb495afa3dcea31a047c6c452715025ad0e232e2480e6e135d633a87", func := "loop.example/lib-pathpatterns/laws.FnSplitJoin", spec := "fnSplitJoin", apart := false, narrowed := true }
def FnSplitJoinUptoSaid : Prop := fnSplitJoinUptoRow.holds Try.pinned (OpenSpec.upto fnSplitJoinSpec)

/-- 'laws.FnBaseSplit', WHERE WHAT IT READS IS OF BULK AT MOST 1048576: true; the input reads as it did. -/
def fnBaseSplitUptoRow : OpenClaim := { program := "ytcnaedaonmbakaa", sum := "77c389f6cb495afa3dcea31a047c6c452715025ad0e232e2480e6e135d633a87", func := "loop.example/lib-pathpatterns/laws.FnBaseSplit", spec := "fnBaseSplit", apart := false, narrowed := true }
def FnBaseSplitUptoSaid : Prop := fnBaseSplitUptoRow.holds Try.pinned (OpenSpec.upto fnBaseSplitSpec)

/-- 'laws.FnIsAbsKept', WHERE WHAT IT READS IS OF BULK AT MOST 1048576: true; the input reads as it did. -/
def fnIsAbsKeptUptoRow : OpenClaim := { program := "ytcnaedaonmbakaa", sum := "77c389f6cb495afa3dcea31a047c6c452715025ad0e232e2480e6e135d633a87", func := "loop.example/lib-pathpatterns/laws.FnIsAbsKept", spec := "fnIsAbsKept", apart := false, narrowed := true }
def FnIsAbsKeptUptoSaid : Prop := fnIsAbsKeptUptoRow.holds Try.pinned (OpenSpec.upto fnIsAbsKeptSpec)

/-- 'laws.FnCleanParts', WHERE WHAT IT READS IS OF BULK AT MOST 1048576: true; the input reads as it did. -/
def fnCleanPartsUptoRow : OpenClaim := { program := "ytcnaedaonmbakaa", sum := "77c389f6cb495afa3dcea31a047c6c452715025ad0e232e2480e6e135d633a87", func := "loop.example/lib-pathpatterns/laws.FnCleanParts", spec := "fnCleanParts", apart := false, narrowed := true }
def FnCleanPartsUptoSaid : Prop := fnCleanPartsUptoRow.holds Try.pinned (OpenSpec.upto fnCleanPartsSpec)

end Rows
end Go.Proofs.Ytcnaedaonmbakaa

/-
  errors.Is at what path.Match hands it: ErrBadPattern itself, and nil (the kit's text for the toy 'sentry', turned to this program). Conditions: none beyond those of each theorem.
-/
import Derived.Test.YtcoaoheakeodoaaDoorEnv
import Derived.LaidEql
import Derived.Stop.Asserts
import Derived.RowKitTokens
namespace Go.Proofs.YtcoaoheakeodoaaDoor
open Go.RowKit Go.Extern.Stop Go.Stop Go.Extern

theorem isTypeOf (v : Value) (w : World) : (Extern.ReflectliteType.typeOf #[.iface 134 v]).run Tryd.prog w = .ok (.iface 117 (.agg #[.pointer (some ⟨4, 134, none⟩)])) w := by kernel_rfl
def cmpExt : Array Value → Sem Value := Extern.ReflectliteType.method fun t => do Go.Extern.Rtype.noPackHeld "Comparable" t; pure (.bool (← typeInfo t).comparable)
theorem isComparable (w : World) : (cmpExt #[.agg #[.pointer (some ⟨4, 134, none⟩)]]).run Tryd.prog w = .ok (.bool true) w := by kernel_rfl
theorem isMethodComparable (v : Value) (w : World) : (Go.method 268 117 v "Comparable").run Tryd.prog w = .ok (100, v) w := by kernel_rfl
theorem isComp : (Tryd.prog.info? 134).map (·.comparable) = some true := by kernel_rfl
theorem isSize : (Tryd.prog.info? 157).map (·.size) = some 1 := by kernel_rfl

set_option maxRecDepth 100000 in
theorem is_same (a : Addr) (w : World) :
    Calls Tryd.prog 46 #[errV a, errV a] w fun e w' => e = .returned (.bool true) ∧ w' = w := by
  obtain ⟨i, hi, hcmp⟩ := Option.map_eq_some_iff.1 isComp
  obtain ⟨j, hj, hjs⟩ := Option.map_eq_some_iff.1 isSize
  have h8 := @run_callFunc_extern Tryd.prog 65 _ Extern.ReflectliteType.typeOf Tryd.func65 (by kernel_rfl) (by kernel_rfl) (by kernel_rfl) (by kernel_rfl)
  have h32 := @run_callFunc_extern Tryd.prog 100 _ cmpExt Tryd.func100 (by kernel_rfl) (by kernel_rfl) (by kernel_rfl) (by kernel_rfl)
  have tT := isTypeOf
  have cT := isComparable
  have mR := isMethodComparable
  have heq := run_eql_iface_ptr_same (P := Tryd.prog) w a Tryd.underlying74 Tryd.underlying134 hi hcmp hj
  go_enter Tryd.func46, Tryd.ntmps46
  go_wp2
  refine wp_loop_rounds 1 ?_
  rw [rounds_succ]
  go_wp2
  go_ret
  exact ⟨rfl, rfl⟩

set_option maxRecDepth 100000 in
theorem is_nil (b : Addr) (w : World) :
    Calls Tryd.prog 46 #[.nilIface, errV b] w fun e w' => e = .returned (.bool false) ∧ w' = w := by
  have hn := run_eql_iface_nil_left (P := Tryd.prog) w 134 (.pointer (some b)) Tryd.underlying74
  go_enter Tryd.func46, Tryd.ntmps46
  go_wp2
  go_ret
  exact ⟨rfl, rfl⟩

end Go.Proofs.YtcoaoheakeodoaaDoor

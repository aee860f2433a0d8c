/-
  From a row's listed variables to what the walks ask of the world (Env), and worlds that meet the lists. Conditions: none beyond those of each theorem.
-/
import Derived.Test.YtcoaoheakeodoaaDoorEnv
import Derived.Lib.LaidU8
import Derived.Lay
import Derived.MakeChecks
import Derived.Stop.LaidErr
namespace Go.Proofs.YtcoaoheakeodoaaDoor
open Go.ChangeShapes Go.WideShapes Go.ChangeAt Go.RowKit

theorem u8x : U8Extra Tryd.prog Tryd.lays260_ren := { n3 := by kernel_rfl, n4 := by kernel_rfl, y3 := by kernel_rfl, y4 := by kernel_rfl, c5 := by kernel_rfl, c119 := by kernel_rfl, c138 := by kernel_rfl }
theorem firstEq : Rows.laid_unicode_utf8_first = Lib.firstData := by kernel_rfl
theorem acceptEq : (Rows.laid_unicode_utf8_acceptRanges : DataW Unit) = Lib.acceptData := by kernel_rfl

theorem tabs_of {W : World} {L : List (String × DataW Unit)} (h : laidMet Tryd.prog L W) (h1 : ("unicode/utf8.first", Rows.laid_unicode_utf8_first) ∈ L) (h2 : ("unicode/utf8.acceptRanges", (Rows.laid_unicode_utf8_acceptRanges : DataW Unit)) ∈ L) :
    Lib.Utf8Tabs 1 2 W := by
  have r1 := Lib.laidMet.reads h h1
  have r2 := Lib.laidMet.reads h h2
  rw [firstEq] at r1
  rw [acceptEq] at r2
  exact utf8Tabs_of_reads Tryd.lays260 u8x r1 r2

theorem errRow (u : TypeId) (hu : Tryd.prog.typeName? 3 u = some "*errors.errorString") : u = 134 :=
  typeName_ptr_named (nm := "errors.errorString") (by kernel_rfl) (by kernel_rfl) (by decide) u hu
theorem gErr : Tryd.prog.globalNamed "path.ErrBadPattern" = some 0 := by kernel_rfl
theorem tErr : (Tryd.prog.globals[0]?).map (·.type) = some 74 := by kernel_rfl

theorem env_of {W : World} (h : laidMetH Tryd.prog [("unicode/utf8.acceptRanges", Rows.laid_unicode_utf8_acceptRanges), ("path.ErrBadPattern", Rows.laid_path_ErrBadPattern), ("unicode/utf8.first", Rows.laid_unicode_utf8_first)] W) : ∃ a, Env a W := by
  rw [MakeChecks.laidMetH_plain _ _ _ (by kernel_rfl)] at h
  have hT := tabs_of h (by simp) (by simp)
  obtain ⟨a, s, hv, hc, hs, hz⟩ := laid_sentinel h.tail gErr tErr Tryd.underlying74 errRow Tryd.underlying134 Tryd.underlying157 rfl rfl Tryd.underlying9 (by kernel_rfl) (by kernel_rfl)
  exact ⟨a, hT, by simpa using World.var?_cell gErr hv 0⟩
theorem env2_of {W : World} (h : laidMetH Tryd.prog [("unicode/utf8.acceptRanges", Rows.laid_unicode_utf8_acceptRanges), ("unicode/utf8.first", Rows.laid_unicode_utf8_first)] W) : Lib.Utf8Tabs 1 2 W := by
  rw [MakeChecks.laidMetH_plain _ _ _ (by kernel_rfl)] at h
  exact tabs_of h (by simp) (by simp)

end Go.Proofs.YtcoaoheakeodoaaDoor

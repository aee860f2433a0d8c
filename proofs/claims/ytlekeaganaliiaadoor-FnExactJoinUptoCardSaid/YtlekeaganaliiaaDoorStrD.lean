/-
  strings.Trim, TrimRight: their contracts at one byte. Conditions: none beyond those of each theorem.
-/
import Derived.Test.YtlekeaganaliiaaDoorBase
import Derived.Test.YtlekeaganaliiaaDoorShelf
import Derived.Lib.SlTrimSet
namespace Go.Proofs.YtlekeaganaliiaaDoor
open Go.ChangeShapes Go.WideShapes Go.ChangeAt Go.RowKit

theorem trimB (P : ByteArray) (p : List UInt8) (w : World) (hP : P.data.toList = p) (hl : p.length ≤ 9223372036854775807) :
    Calls Tryd.prog 23 #[.string P, .string ⟨#[47]⟩] w fun e w' => e = .returned (S (Lib.trimS p [47])) ∧ Below w.heap.size w w' := by
  subst hP
  refine (Tryd.strings_Trim_one P 47 (by decide) w hl).mono ?_
  rintro e w' ⟨rfl, h⟩
  rw [Lib.trimS_one]
  refine ⟨rfl, ?_⟩
  rcases h with rfl | rfl
  · exact Below.refl _ _
  · exact ⟨rfl, rfl, rfl, Nat.le_refl _, fun _ _ => rfl⟩
theorem trimRightC (P : ByteArray) (p : List UInt8) (w : World) (hP : P.data.toList = p) (hl : p.length ≤ 9223372036854775807) :
    Calls Tryd.prog 71 #[.string P, .string ⟨#[47]⟩] w fun e w' => e = .returned (S (Lib.trimRightS p [47])) ∧ Below w.heap.size w w' := by
  subst hP
  refine (Tryd.strings_TrimRight_one P 47 (by decide) w hl).mono ?_
  rintro e w' ⟨rfl, rfl⟩
  rw [Lib.trimRightS_one]
  exact ⟨rfl, Below.refl _ _⟩

end Go.Proofs.YtlekeaganaliiaaDoor

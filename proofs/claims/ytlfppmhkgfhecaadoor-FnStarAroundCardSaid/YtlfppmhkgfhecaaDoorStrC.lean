/-
  strings.Contains at one byte, strings.HasPrefix, strings.HasSuffix: contracts as the laws use them. Conditions: none beyond those of each theorem.
-/
import Derived.Test.YtlfppmhkgfhecaaDoorLawT
namespace Go.Proofs.YtlfppmhkgfhecaaDoor
open Go.ChangeShapes Go.WideShapes Go.ChangeAt Go.RowKit

theorem index_contains (l : Bs) (c : UInt8) : decide (0 ≤ Lib.indexByte l c) = l.contains c := by
  have h := indexByte_neg l c
  cases hc : l.contains c with
  | false => exact decide_eq_false (by have := h.2 hc; omega)
  | true =>
    refine decide_eq_true ?_
    have : ¬ Lib.indexByte l c < 0 := fun x => by rw [h.1 x] at hc; cases hc
    omega

theorem slashB (P : ByteArray) (p : Bs) (w : World) (hP : P.data.toList = p) :
    Calls Tryd.prog 31 #[.string P, .string ⟨#[47]⟩] w fun e w' => e = .returned (.bool (p.contains 47)) ∧ Below w.heap.size w w' := by
  refine (Tryd.strings_Contains_one P 47 w).mono ?_
  rintro e w' ⟨rfl, rfl⟩
  rw [hP, index_contains]
  exact ⟨rfl, Below.refl _ _⟩
theorem hasPrefixB (P Q : ByteArray) (p q : Bs) (w : World) (hP : P.data.toList = p) (hQ : Q.data.toList = q) :
    Calls Tryd.prog 34 #[.string P, .string Q] w fun e w' => e = .returned (.bool (q.isPrefixOf p)) ∧ Below w.heap.size w w' := by
  refine (Tryd.strings_HasPrefix P Q w).mono ?_
  rintro e w' ⟨rfl, rfl⟩
  rw [hP, hQ]
  exact ⟨rfl, Below.refl _ _⟩

end Go.Proofs.YtlfppmhkgfhecaaDoor

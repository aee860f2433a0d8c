/-
  The thin package's path functions: contracts out of the shelf's. Conditions: none beyond those of each theorem.
-/
import Derived.Test.YtgdkepjimhmdbaaDoorBase
import Derived.Test.YtgdkepjimhmdbaaDoorShelf
namespace Go.Proofs.YtgdkepjimhmdbaaDoor
open Go.ChangeShapes Go.WideShapes Go.ChangeAt Go.RowKit

theorem implClean (s : ByteArray) (w : World) (h : s.size ≤ 281474976710656) :
    Calls Tryd.prog 34 #[.string s] w fun e w' => e = .returned (S (Lib.Pa.clean s.data.toList)) ∧ Below w.heap.size w w' := by
  go_enter Tryd.func34, Tryd.ntmps34
  go_wp2_with fail
  refine (Tryd.path_Clean s _ h).mono ?_
  rintro e w1 ⟨rfl, hb⟩
  have H := Lib.hid hb
  clear hb
  go_wp2
  go_ret
  exact ⟨rfl, H.out⟩


theorem implBase (s : ByteArray) (w : World) (h : s.size ≤ 9223372036854775807) :
    Calls Tryd.prog 37 #[.string s] w fun e w' => e = .returned (S (Lib.Pa.base s.data.toList)) ∧ w = w' := by
  go_enter Tryd.func37, Tryd.ntmps37
  go_wp2_with fail
  refine (Tryd.path_Base s _ h).mono ?_
  rintro e w1 ⟨rfl, rfl⟩
  go_wp2
  go_ret
  exact ⟨rfl, rfl⟩

theorem implExt (s : ByteArray) (w : World) (h : s.size ≤ 9223372036854775807) :
    Calls Tryd.prog 32 #[.string s] w fun e w' => e = .returned (S (Lib.Pa.ext s.data.toList)) ∧ w = w' := by
  go_enter Tryd.func32, Tryd.ntmps32
  go_wp2_with fail
  refine (Tryd.path_Ext s _ h).mono ?_
  rintro e w1 ⟨rfl, rfl⟩
  go_wp2
  go_ret
  exact ⟨rfl, rfl⟩


theorem implSplit (s : ByteArray) (w : World) (h : s.size ≤ 9223372036854775807) :
    Calls Tryd.prog 29 #[.string s] w fun e w' => e = .returned (.tuple #[S (Lib.Pa.split s.data.toList).1, S (Lib.Pa.split s.data.toList).2]) ∧ Below w.heap.size w w' := by
  go_enter Tryd.func29, Tryd.ntmps29
  go_wp2_with fail
  refine (Tryd.path_Split s _ h).mono ?_
  rintro e w1 ⟨rfl, n, rfl⟩
  go_wp2
  go_ret2
  exact ⟨rfl, below_drewN (Below.refl _ _) n⟩

theorem cleanL (l : List UInt8) (w : World) (h : l.length ≤ 281474976710656) :
    Calls Tryd.prog 34 #[S l] w fun e w' => e = .returned (S (Lib.Pa.clean l)) ∧ Below w.heap.size w w' := implClean ⟨l.toArray⟩ w h
theorem baseL (l : List UInt8) (w : World) (h : l.length ≤ 9223372036854775807) :
    Calls Tryd.prog 37 #[S l] w fun e w' => e = .returned (S (Lib.Pa.base l)) ∧ w = w' := implBase ⟨l.toArray⟩ w h
theorem extL (l : List UInt8) (w : World) (h : l.length ≤ 9223372036854775807) :
    Calls Tryd.prog 32 #[S l] w fun e w' => e = .returned (S (Lib.Pa.ext l)) ∧ w = w' := implExt ⟨l.toArray⟩ w h
theorem splitL (l : List UInt8) (w : World) (h : l.length ≤ 9223372036854775807) :
    Calls Tryd.prog 29 #[S l] w fun e w' => e = .returned (.tuple #[S (Lib.Pa.split l).1, S (Lib.Pa.split l).2]) ∧ Below w.heap.size w w' := implSplit ⟨l.toArray⟩ w h

theorem new_cells (w : World) (t : TypeId) (xs : List (List UInt8)) : ∀ (j : Nat) x, xs[j]? = some x → (w.alloc (.cells (xs.map fun l => S l).toArray t)).cell? ⟨w.heap.size, 0 + j, none⟩ = some (S x) := by
  intro j x hj
  unfold World.cell?
  rw [heap_alloc_new]
  simp [hj]


end Go.Proofs.YtgdkepjimhmdbaaDoor

/-
  The thin package's path functions: contracts out of the shelf's. Conditions: none beyond those of each theorem.
-/
import Derived.Test.YtcnaedaonmbakaaBase
import Derived.Test.YtcnaedaonmbakaaShelf
namespace Go.Proofs.Ytcnaedaonmbakaa
open Go.ChangeShapes Go.WideShapes Go.ChangeAt Go.RowKit

/-- The bytes of a string. -/
abbrev S (l : List UInt8) : Value := .string ⟨l.toArray⟩

theorem implClean (s : ByteArray) (w : World) (h : s.size ≤ 281474976710656) :
    Calls Try.prog 23 #[.string s] w fun e w' => e = .returned (S (Lib.Pa.clean s.data.toList)) ∧ Below w.heap.size w w' := by
  go_enter Try.func23, Try.ntmps23
  go_wp2_with fail
  refine (Try.path_Clean s _ h).mono ?_
  rintro e w1 ⟨rfl, hb⟩
  have H := Lib.hid hb
  clear hb
  go_wp2
  go_ret
  exact ⟨rfl, H.out⟩

theorem implDir (s : ByteArray) (w : World) (h : s.size ≤ 281474976710656) :
    Calls Try.prog 25 #[.string s] w fun e w' => e = .returned (S (Lib.Pa.dir s.data.toList)) ∧ Below w.heap.size w w' := by
  go_enter Try.func25, Try.ntmps25
  go_wp2_with fail
  refine (Try.path_Dir s _ h).mono ?_
  rintro e w1 ⟨rfl, hb⟩
  have H := Lib.hid hb
  clear hb
  go_wp2
  go_ret
  exact ⟨rfl, H.out⟩

theorem implBase (s : ByteArray) (w : World) (h : s.size ≤ 9223372036854775807) :
    Calls Try.prog 29 #[.string s] w fun e w' => e = .returned (S (Lib.Pa.base s.data.toList)) ∧ w = w' := by
  go_enter Try.func29, Try.ntmps29
  go_wp2_with fail
  refine (Try.path_Base s _ h).mono ?_
  rintro e w1 ⟨rfl, rfl⟩
  go_wp2
  go_ret
  exact ⟨rfl, rfl⟩

theorem implExt (s : ByteArray) (w : World) (h : s.size ≤ 9223372036854775807) :
    Calls Try.prog 18 #[.string s] w fun e w' => e = .returned (S (Lib.Pa.ext s.data.toList)) ∧ w = w' := by
  go_enter Try.func18, Try.ntmps18
  go_wp2_with fail
  refine (Try.path_Ext s _ h).mono ?_
  rintro e w1 ⟨rfl, rfl⟩
  go_wp2
  go_ret
  exact ⟨rfl, rfl⟩

theorem implIsAbs (s : ByteArray) (w : World) :
    Calls Try.prog 14 #[.string s] w fun e w' => e = .returned (.bool (Lib.Pa.isAbs s.data.toList)) ∧ w = w' := by
  go_enter Try.func14, Try.ntmps14
  go_wp2_with fail
  refine (Try.path_IsAbs s _).mono ?_
  rintro e w1 ⟨rfl, rfl⟩
  go_wp2
  go_ret
  exact ⟨rfl, rfl⟩

theorem implSplit (s : ByteArray) (w : World) (h : s.size ≤ 9223372036854775807) :
    Calls Try.prog 16 #[.string s] w fun e w' => e = .returned (.tuple #[S (Lib.Pa.split s.data.toList).1, S (Lib.Pa.split s.data.toList).2]) ∧ Below w.heap.size w w' := by
  go_enter Try.func16, Try.ntmps16
  go_wp2_with fail
  refine (Try.path_Split s _ h).mono ?_
  rintro e w1 ⟨rfl, n, rfl⟩
  go_wp2
  go_ret2
  exact ⟨rfl, below_drewN (Below.refl _ _) n⟩

end Go.Proofs.Ytcnaedaonmbakaa

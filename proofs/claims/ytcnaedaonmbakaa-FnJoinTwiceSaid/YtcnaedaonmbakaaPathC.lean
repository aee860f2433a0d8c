/-
  The thin package's path functions: contracts out of the shelf's. Conditions: none beyond those of each theorem.
-/
import Derived.Test.YtcnaedaonmbakaaBase
import Derived.Test.YtcnaedaonmbakaaShelf
namespace Go.Proofs.Ytcnaedaonmbakaa
open Go.ChangeShapes Go.WideShapes Go.ChangeAt Go.RowKit

/-- The bytes of a string. -/
abbrev S (l : List UInt8) : Value := .string ⟨l.toArray⟩

theorem implClean (s : ByteArray) (w : World) (h : s.size ≤ 281474976710656) :
    Calls Try.prog 23 #[.string s] w fun e w' => e = .returned (S (Lib.Pa.clean s.data.toList)) ∧ Below w.heap.size w w' := by
  go_enter Try.func23, Try.ntmps23
  go_wp2_with fail
  refine (Try.path_Clean s _ h).mono ?_
  rintro e w1 ⟨rfl, hb⟩
  have H := Lib.hid hb
  clear hb
  go_wp2
  go_ret
  exact ⟨rfl, H.out⟩

theorem implDir (s : ByteArray) (w : World) (h : s.size ≤ 281474976710656) :
    Calls Try.prog 25 #[.string s] w fun e w' => e = .returned (S (Lib.Pa.dir s.data.toList)) ∧ Below w.heap.size w w' := by
  go_enter Try.func25, Try.ntmps25
  go_wp2_with fail
  refine (Try.path_Dir s _ h).mono ?_
  rintro e w1 ⟨rfl, hb⟩
  have H := Lib.hid hb
  clear hb
  go_wp2
  go_ret
  exact ⟨rfl, H.out⟩

theorem implBase (s : ByteArray) (w : World) (h : s.size ≤ 9223372036854775807) :
    Calls Try.prog 29 #[.string s] w fun e w' => e = .returned (S (Lib.Pa.base s.data.toList)) ∧ w = w' := by
  go_enter Try.func29, Try.ntmps29
  go_wp2_with fail
  refine (Try.path_Base s _ h).mono ?_
  rintro e w1 ⟨rfl, rfl⟩
  go_wp2
  go_ret
  exact ⟨rfl, rfl⟩

theorem implExt (s : ByteArray) (w : World) (h : s.size ≤ 9223372036854775807) :
    Calls Try.prog 18 #[.string s] w fun e w' => e = .returned (S (Lib.Pa.ext s.data.toList)) ∧ w = w' := by
  go_enter Try.func18, Try.ntmps18
  go_wp2_with fail
  refine (Try.path_Ext s _ h).mono ?_
  rintro e w1 ⟨rfl, rfl⟩
  go_wp2
  go_ret
  exact ⟨rfl, rfl⟩

theorem implIsAbs (s : ByteArray) (w : World) :
    Calls Try.prog 14 #[.string s] w fun e w' => e = .returned (.bool (Lib.Pa.isAbs s.data.toList)) ∧ w = w' := by
  go_enter Try.func14, Try.ntmps14
  go_wp2_with fail
  refine (Try.path_IsAbs s _).mono ?_
  rintro e w1 ⟨rfl, rfl⟩
  go_wp2
  go_ret
  exact ⟨rfl, rfl⟩

theorem implSplit (s : ByteArray) (w : World) (h : s.size ≤ 9223372036854775807) :
    Calls Try.prog 16 #[.string s] w fun e w' => e = .returned (.tuple #[S (Lib.Pa.split s.data.toList).1, S (Lib.Pa.split s.data.toList).2]) ∧ Below w.heap.size w w' := by
  go_enter Try.func16, Try.ntmps16
  go_wp2_with fail
  refine (Try.path_Split s _ h).mono ?_
  rintro e w1 ⟨rfl, n, rfl⟩
  go_wp2
  go_ret2
  exact ⟨rfl, below_drewN (Below.refl _ _) n⟩

theorem cleanL (l : List UInt8) (w : World) (h : l.length ≤ 281474976710656) :
    Calls Try.prog 23 #[S l] w fun e w' => e = .returned (S (Lib.Pa.clean l)) ∧ Below w.heap.size w w' := implClean ⟨l.toArray⟩ w h
theorem dirL (l : List UInt8) (w : World) (h : l.length ≤ 281474976710656) :
    Calls Try.prog 25 #[S l] w fun e w' => e = .returned (S (Lib.Pa.dir l)) ∧ Below w.heap.size w w' := implDir ⟨l.toArray⟩ w h
theorem baseL (l : List UInt8) (w : World) (h : l.length ≤ 9223372036854775807) :
    Calls Try.prog 29 #[S l] w fun e w' => e = .returned (S (Lib.Pa.base l)) ∧ w = w' := implBase ⟨l.toArray⟩ w h
theorem extL (l : List UInt8) (w : World) (h : l.length ≤ 9223372036854775807) :
    Calls Try.prog 18 #[S l] w fun e w' => e = .returned (S (Lib.Pa.ext l)) ∧ w = w' := implExt ⟨l.toArray⟩ w h
theorem isAbsL (l : List UInt8) (w : World) :
    Calls Try.prog 14 #[S l] w fun e w' => e = .returned (.bool (Lib.Pa.isAbs l)) ∧ w = w' := implIsAbs ⟨l.toArray⟩ w
theorem splitL (l : List UInt8) (w : World) (h : l.length ≤ 9223372036854775807) :
    Calls Try.prog 16 #[S l] w fun e w' => e = .returned (.tuple #[S (Lib.Pa.split l).1, S (Lib.Pa.split l).2]) ∧ Below w.heap.size w w' := implSplit ⟨l.toArray⟩ w h

theorem new_cells (w : World) (t : TypeId) (xs : List (List UInt8)) : ∀ (j : Nat) x, xs[j]? = some x → (w.alloc (.cells (xs.map fun l => S l).toArray t)).cell? ⟨w.heap.size, 0 + j, none⟩ = some (S x) := by
  intro j x hj
  unfold World.cell?
  rw [heap_alloc_new]
  simp [hj]

theorem implJoin (bk o c n : Nat) (xs : List (List UInt8)) (w : World) (hn : xs.length = n) (hcells : ∀ (j : Nat) x, xs[j]? = some x → w.cell? ⟨bk, o + j, none⟩ = some (S x)) (hbk : bk < w.heap.size) (hlen : Lib.Pa.lens xs + xs.length ≤ 281474976710656) :
    Calls Try.prog 21 #[.slice (some ⟨bk, o, none⟩) n c] w fun e w' => e = .returned (S (Lib.Pa.join xs)) ∧ Below w.heap.size w w' := by
  subst hn
  have em : (xs.map (fun l : List UInt8 => (⟨l.toArray⟩ : ByteArray))).map (·.data.toList) = xs := by
    rw [List.map_map]
    exact List.map_id' xs
  have hx := Try.path_Join_rules bk o c (xs.map (fun l : List UInt8 => (⟨l.toArray⟩ : ByteArray))) w (fun j x hj => by
    rw [List.getElem?_map] at hj
    cases hg : xs[j]? with
    | none => rw [hg] at hj; cases hj
    | some y =>
      rw [hg] at hj
      simp at hj
      subst hj
      exact hcells j y hg) hbk (by rw [em]; simpa using hlen)
  rw [em, List.length_map] at hx
  have HX := Lib.hid hx
  clear hx hcells
  go_enter Try.func21, Try.ntmps21
  go_wp2_with fail
  refine HX.out.mono ?_
  rintro e w1 ⟨rfl, hb⟩
  have H := Lib.hid hb
  clear hb HX
  go_wp2
  go_ret
  exact ⟨rfl, H.out⟩

end Go.Proofs.Ytcnaedaonmbakaa

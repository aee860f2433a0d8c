/-
  The thin package's path functions: contracts out of the shelf's. Conditions: none beyond those of each theorem.
-/
import Derived.Test.YtlekeaganaliiaaDoorBase
import Derived.Test.YtlekeaganaliiaaDoorShelf
namespace Go.Proofs.YtlekeaganaliiaaDoor
open Go.ChangeShapes Go.WideShapes Go.ChangeAt Go.RowKit

theorem implClean (s : ByteArray) (w : World) (h : s.size ≤ 281474976710656) :
    Calls Tryd.prog 29 #[.string s] w fun e w' => e = .returned (S (Lib.Pa.clean s.data.toList)) ∧ Below w.heap.size w w' := by
  go_enter Tryd.func29, Tryd.ntmps29
  go_wp2_with fail
  refine (Tryd.path_Clean s _ h).mono ?_
  rintro e w1 ⟨rfl, hb⟩
  have H := Lib.hid hb
  clear hb
  go_wp2
  go_ret
  exact ⟨rfl, H.out⟩

theorem implDir (s : ByteArray) (w : World) (h : s.size ≤ 281474976710656) :
    Calls Tryd.prog 31 #[.string s] w fun e w' => e = .returned (S (Lib.Pa.dir s.data.toList)) ∧ Below w.heap.size w w' := by
  go_enter Tryd.func31, Tryd.ntmps31
  go_wp2_with fail
  refine (Tryd.path_Dir s _ h).mono ?_
  rintro e w1 ⟨rfl, hb⟩
  have H := Lib.hid hb
  clear hb
  go_wp2
  go_ret
  exact ⟨rfl, H.out⟩

theorem implBase (s : ByteArray) (w : World) (h : s.size ≤ 9223372036854775807) :
    Calls Tryd.prog 21 #[.string s] w fun e w' => e = .returned (S (Lib.Pa.base s.data.toList)) ∧ w = w' := by
  go_enter Tryd.func21, Tryd.ntmps21
  go_wp2_with fail
  refine (Tryd.path_Base s _ h).mono ?_
  rintro e w1 ⟨rfl, rfl⟩
  go_wp2
  go_ret
  exact ⟨rfl, rfl⟩




theorem cleanL (l : List UInt8) (w : World) (h : l.length ≤ 281474976710656) :
    Calls Tryd.prog 29 #[S l] w fun e w' => e = .returned (S (Lib.Pa.clean l)) ∧ Below w.heap.size w w' := implClean ⟨l.toArray⟩ w h
theorem dirL (l : List UInt8) (w : World) (h : l.length ≤ 281474976710656) :
    Calls Tryd.prog 31 #[S l] w fun e w' => e = .returned (S (Lib.Pa.dir l)) ∧ Below w.heap.size w w' := implDir ⟨l.toArray⟩ w h
theorem baseL (l : List UInt8) (w : World) (h : l.length ≤ 9223372036854775807) :
    Calls Tryd.prog 21 #[S l] w fun e w' => e = .returned (S (Lib.Pa.base l)) ∧ w = w' := implBase ⟨l.toArray⟩ w h

theorem new_cells (w : World) (t : TypeId) (xs : List (List UInt8)) : ∀ (j : Nat) x, xs[j]? = some x → (w.alloc (.cells (xs.map fun l => S l).toArray t)).cell? ⟨w.heap.size, 0 + j, none⟩ = some (S x) := by
  intro j x hj
  unfold World.cell?
  rw [heap_alloc_new]
  simp [hj]

theorem implJoin (bk o c n : Nat) (xs : List (List UInt8)) (w : World) (hn : xs.length = n) (hcells : ∀ (j : Nat) x, xs[j]? = some x → w.cell? ⟨bk, o + j, none⟩ = some (S x)) (hbk : bk < w.heap.size) (hlen : Lib.Pa.lens xs + xs.length ≤ 281474976710656) :
    Calls Tryd.prog 27 #[.slice (some ⟨bk, o, none⟩) n c] w fun e w' => e = .returned (S (Lib.Pa.join xs)) ∧ Below w.heap.size w w' := by
  subst hn
  have em : (xs.map (fun l : List UInt8 => (⟨l.toArray⟩ : ByteArray))).map (·.data.toList) = xs := by
    rw [List.map_map]
    exact List.map_id' xs
  have hx := Tryd.path_Join_rules bk o c (xs.map (fun l : List UInt8 => (⟨l.toArray⟩ : ByteArray))) w (fun j x hj => by
    rw [List.getElem?_map] at hj
    cases hg : xs[j]? with
    | none => rw [hg] at hj; cases hj
    | some y =>
      rw [hg] at hj
      simp at hj
      subst hj
      exact hcells j y hg) hbk (by rw [em]; simpa using hlen)
  rw [em, List.length_map] at hx
  have HX := Lib.hid hx
  clear hx hcells
  go_enter Tryd.func27, Tryd.ntmps27
  go_wp2_with fail
  refine HX.out.mono ?_
  rintro e w1 ⟨rfl, hb⟩
  have H := Lib.hid hb
  clear hb HX
  go_wp2
  go_ret
  exact ⟨rfl, H.out⟩

end Go.Proofs.YtlekeaganaliiaaDoor

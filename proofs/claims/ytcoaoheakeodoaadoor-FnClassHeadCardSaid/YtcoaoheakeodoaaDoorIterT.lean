/-
  A range over a string whose body calls: the step of the iterator in whatever world. Conditions: none beyond those of each theorem.
-/
import Derived.Test.YtcoaoheakeodoaaDoorInv
import Derived.Test.YtcoaoheakeodoaaDoorTermG
import Derived.Laws.RangeAny
namespace Go.Proofs.YtcoaoheakeodoaaDoor
open Go.ChangeShapes Go.WideShapes Go.ChangeAt Go.RowKit

theorem below_dN {B : Nat} {a w : World} (h : Below B a w) (n : Nat) : Below B a (w.drewN n) := ⟨h.os, h.tape, h.output, h.size, h.block⟩
/-- The world with the iterator in block h moved on. -/
def iterTo (W : World) (h : Nat) (s : ByteArray) (pos : Nat) : World := { W with heap := W.heap.setIfInBounds h (.stringIter s pos) }
theorem iterTo_at {W : World} {h : Nat} {s : ByteArray} {p q : Nat} (hh : W.heap[h]? = some (.stringIter s p)) : (iterTo W h s q).heap[h]? = some (.stringIter s q) := by
  have hl : h < W.heap.size := (Array.getElem?_eq_some_iff.1 hh).1
  show (W.heap.setIfInBounds h (.stringIter s q))[h]? = _
  simp [hl]
theorem iterTo_grown (W : World) (h : Nat) (s : ByteArray) (q : Nat) : W.grownBy (iterTo W h s q) (some h) :=
  ⟨rfl, rfl, rfl, by show W.heap.size ≤ (W.heap.setIfInBounds h _).size; simp, fun j _ hj => by
    show (W.heap.setIfInBounds h (.stringIter s q))[j]? = _
    rw [Array.getElem?_setIfInBounds_ne (fun e => hj (by rw [e]))]⟩
theorem run_next_at {P : Program} {W : World} {h : Nat} {s : ByteArray} {pos : Nat} (ty : TypeId) (hh : W.heap[h]? = some (.stringIter s pos)) (hp : pos < s.size) :
    (Instr.next (.pointer (some ⟨h, 0, none⟩)) true ty).run P W = .ok (.tuple #[.bool true, .int .i64 pos, .int .i32 (Utf8.decode s pos).1]) (iterTo W h s (pos + (Utf8.decode s pos).2)) := by
  simp only [Instr.next, getObj, setObj, Sem.run_bind, Sem.run, hh, Result.andThen, hp, if_true]
  simp [goInt, iterTo]
theorem run_next_stop {P : Program} {W : World} {h : Nat} {s : ByteArray} {pos : Nat} (ty : TypeId) (hh : W.heap[h]? = some (.stringIter s pos)) (hp : ¬ pos < s.size) :
    (Instr.next (.pointer (some ⟨h, 0, none⟩)) true ty).run P W = .ok (.tuple #[.bool false]) W := by
  simp only [Instr.next, getObj, setObj, Sem.run_bind, Sem.run, hh, Result.andThen, hp]
  simp
theorem iterPos_of {W : World} {h : Nat} {s : ByteArray} {p : Nat} (hh : W.heap[h]? = some (.stringIter s p)) : W.iterPos h = p := by
  simp [World.iterPos, hh]

end Go.Proofs.YtcoaoheakeodoaaDoor

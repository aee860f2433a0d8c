/-
  Ranges that a law puts together. Conditions: none beyond those of each theorem.
-/
import Derived.Test.YtlfppmhkgfhecaaDoorTermG
import Derived.Test.YtlfppmhkgfhecaaDoorLawG
namespace Go.Proofs.YtlfppmhkgfhecaaDoor
open Go.ChangeShapes Go.WideShapes Go.ChangeAt Go.RowKit

/-- Ranges as numbers of the model. -/
abbrev cst (rs : List (Nat × Nat)) : List (Int × Int) := rs.map fun r => (((r.1 : Nat) : Int), ((r.2 : Nat) : Int))
/-- Ranges that are read, cell by cell. -/
theorem RgRd.src {lo : Nat} {w : World} {v : Value} {rs : List (Nat × Nat)} (h : RgRd lo w v rs) (hn : rs ≠ []) : ∃ g o cap, v = .slice (some ⟨g, o, none⟩) rs.length cap ∧ ∀ (j : Nat) (u : Value), (rcells (cst rs))[j]? = some u → w.cell? ((⟨g, o, none⟩ : Addr).add j) = some u := by
  obtain ⟨a, cap, rfl, h1, h2⟩ := h
  obtain ⟨r0, rs', hrs⟩ := List.exists_cons_of_ne_nil hn
  obtain ⟨g, o, rfl, _⟩ := h2 0 r0 (by rw [hrs]; rfl)
  refine ⟨g, o, cap, rfl, fun j u hj => ?_⟩
  have hlen : j < rs.length * 2 := by
    have := (List.getElem?_eq_some_iff.1 hj).1
    rw [rcells_len, List.length_map] at this
    exact this
  have ea : ∀ k, (⟨g, o, none⟩ : Addr).add k = ⟨g, o + k, none⟩ := fun k => by unfold Addr.add; split <;> simp_all
  have key : ∀ i (hi : i < rs.length), w.cell? ⟨g, o + i * 2, none⟩ = some (.int .i32 ((rs[i].1 : Nat) : Int)) ∧ w.cell? ⟨g, o + i * 2 + 1, none⟩ = some (.int .i32 ((rs[i].2 : Nat) : Int)) ∧ (rcells (cst rs))[2 * i]? = some (.int .i32 ((rs[i].1 : Nat) : Int)) ∧ (rcells (cst rs))[2 * i + 1]? = some (.int .i32 ((rs[i].2 : Nat) : Int)) := by
    intro i hi
    obtain ⟨g', o', e, _, _, c1, c2⟩ := h2 i rs[i] (List.getElem?_eq_getElem hi)
    injection e with e
    injection e with e1 e2
    subst e1 e2
    obtain ⟨a1, a2⟩ := rcells_at (cst rs) i (((rs[i].1 : Nat) : Int), ((rs[i].2 : Nat) : Int)) (by rw [List.getElem?_map, List.getElem?_eq_getElem hi]; rfl)
    exact ⟨c1, c2, a1, a2⟩
  rw [ea]
  obtain ⟨i, hi⟩ : ∃ i, j = 2 * i ∨ j = 2 * i + 1 := ⟨j / 2, by omega⟩
  rcases hi with rfl | rfl
  · obtain ⟨c1, _, a1, _⟩ := key i (by omega)
    rw [a1] at hj
    injection hj with hj
    subst hj
    rw [show o + 2 * i = o + i * 2 by omega]
    exact c1
  · obtain ⟨_, c2, _, a2⟩ := key i (by omega)
    rw [a2] at hj
    injection hj with hj
    subst hj
    rw [show o + (2 * i + 1) = o + i * 2 + 1 by omega]
    exact c2
/-- What two appends to a row that is new leave as it was. -/
theorem two_grown {wr w4 w6 : World} {T R E : Obj} {g1 : Nat} (h1 : ((wr.alloc T).alloc E).grownBy w4 (some (wr.heap.size + 1))) (h3 : (w4.alloc R).grownBy w6 (some g1)) (hg : wr.heap.size + 1 ≤ g1) : w6.heap[wr.heap.size]? = some T ∧ Below wr.heap.size wr w6 ∧ wr.heap.size + 2 ≤ w6.heap.size := by
  have s1 := h1.size
  have s3 := h3.size
  simp at s1 s3
  have b0 : Below wr.heap.size wr ((wr.alloc T).alloc E) := ((Below.refl _ wr).alloc (Nat.le_refl _) T).alloc (by simp) E
  have b1 := b0.grown h1 (by simp; omega) (fun k e => by injection e with e; omega)
  have b2 := (b1.alloc (by omega) R).grown h3 (by simp; omega) (fun k e => by injection e with e; omega)
  refine ⟨?_, b2, by omega⟩
  rw [h3.block wr.heap.size (by simp; omega) (by intro e; injection e with e; omega)]
  have e4 : (w4.alloc R).heap[wr.heap.size]? = w4.heap[wr.heap.size]? := ((World.grownBy_alloc w4 R none).block wr.heap.size (by omega) (by simp))
  rw [e4, h1.block wr.heap.size (by simp; omega) (by intro e; injection e with e; omega)]
  have e5 : ((wr.alloc T).alloc E).heap[wr.heap.size]? = (wr.alloc T).heap[wr.heap.size]? := ((World.grownBy_alloc (wr.alloc T) E none).block wr.heap.size (by simp) (by simp))
  rw [e5]
  exact heap_alloc_new wr T

theorem rcells_one (rs : List (Int × Int)) : ∀ u ∈ rcells rs, u.oneCell' = true := by
  intro u hu
  unfold rcells at hu
  obtain ⟨r, _, h⟩ := List.mem_flatMap.1 hu
  simp at h
  rcases h with rfl | rfl <;> rfl
theorem own_new (V : World) (h : Nat) (hV : V.heap.size = h) : (V.alloc (.cells #[] 38)).ownsRow h 38 2 (.slice (some ⟨h, 0, none⟩) 0 0) 0 [] := by
  subst hV
  exact World.ownsRow_made V #[] 0 (Nat.le_refl _) (by unfold maxLen; omega) rfl
theorem sound_wf {p n : Bs} (h : soundB p n = true) : wfB p = true := by
  unfold soundB at h
  rw [Bool.and_eq_true] at h
  exact h.1

end Go.Proofs.YtlfppmhkgfhecaaDoor

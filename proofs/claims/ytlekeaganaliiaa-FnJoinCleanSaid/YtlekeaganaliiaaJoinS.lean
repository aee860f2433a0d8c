/-
  strings.Join with a slash: its contract over a row of the call's own; a row that is sifted. Conditions: none beyond those of each theorem.
-/
import Derived.Test.YtlekeaganaliiaaJoinC
import Derived.Test.YtlekeaganaliiaaLawP
namespace Go.Proofs.Ytlekeaganaliiaa
open Go.ChangeShapes Go.WideShapes Go.ChangeAt Go.RowKit

theorem joinSlash (B : Nat) (v : Value) (L : PL) (w : World) (h : Lists B w v L) (hl : L.length ≤ 140737488355328) (hj : (J L).length ≤ 140737488355328) :
    Calls Try.prog 7 #[v, .string ⟨#[47]⟩] w fun e w' => e = .returned (S (J L)) ∧ Below w.heap.size w w' := by
  obtain ⟨g, cap, rfl, _, hg, hcap, _, hc⟩ := h.shape
  have em : (L.map mk).map (·.data.toList) = L := by
    rw [List.map_map]
    exact List.map_id' L
  have h := Try.strings_Join g 0 cap (L.map mk) ⟨#[47]⟩ w (fun j x hj => by
    rw [List.getElem?_map] at hj
    cases hq : L[j]? with
    | none => rw [hq] at hj; cases hj
    | some z =>
      rw [hq] at hj
      have hz : x = mk z := (Option.some.inj hj).symm
      rw [hz, Nat.zero_add]
      exact hc j z hq) hg (by rw [List.length_map]; exact hl) (by rw [List.length_map]; exact hcap) (by rw [em]; exact hj)
  rw [em, List.length_map] at h
  exact h
def neE (x : List UInt8) : Bool := decide (x ≠ [])
theorem take_sift {E : PL} {k : Nat} {x : List UInt8} (h : E[k]? = some x) : (E.take (k + 1)).filter neE = (E.take k).filter neE ++ (if neE x then [x] else []) := by
  rw [List.take_add_one, h]
  show (E.take k ++ [x]).filter neE = _
  rw [List.filter_append]
  by_cases hp : neE x = true
  · rw [if_pos hp, List.filter_cons_of_pos hp]; rfl
  · rw [if_neg hp, List.filter_cons_of_neg hp]; rfl
open Go.Lib.Pa in
theorem join_sift (xs : PL) : join xs = if xs.filter neE = [] then [] else clean (J (xs.filter neE)) := rfl

end Go.Proofs.Ytlekeaganaliiaa

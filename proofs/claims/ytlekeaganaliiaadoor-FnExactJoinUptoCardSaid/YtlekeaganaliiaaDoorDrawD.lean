/-
  DrawJoin: its contract. Conditions: none beyond those of each theorem.
-/
import Derived.Test.YtlekeaganaliiaaDoorDrawC
namespace Go.Proofs.YtlekeaganaliiaaDoor
open Go.ChangeShapes Go.WideShapes Go.ChangeAt Go.RowKit

theorem Strs.base {B B' : Nat} {w : World} {v : Value} {ss : List ByteArray} (h : Strs B w v ss) (hB : B' ≤ B) : Strs B' w v ss := by
  obtain ⟨⟨h1, h2⟩, h3⟩ := h
  refine ⟨⟨h1, ?_⟩, h3⟩
  rcases h2 with h2 | ⟨g, cap, cur, e1, e2, r⟩
  · exact .inl h2
  · exact .inr ⟨g, cap, cur, e1, by omega, r⟩

theorem Strs.made (w : World) (B k : Nat) (hk : w.heap.size = k) (hB : B ≤ k) : Strs B (w.alloc (.cells #[] 9)) (.slice (some ⟨k, 0, none⟩) 0 0) [] := by
  subst hk
  exact ⟨World.ownsRow_made w #[] 0 hB (by unfold maxLen; omega) rfl, by simp⟩


end Go.Proofs.YtlekeaganaliiaaDoor

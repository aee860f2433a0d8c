/-
  impl.Match, impl.Fails, laws.yes, laws.alike at strings that are put together: contracts. Conditions: none beyond those of each theorem.
-/
import Derived.Test.YtcoaoheakeodoaaDoorImpl
import Derived.Test.YtcoaoheakeodoaaDoorRunes
namespace Go.Proofs.YtcoaoheakeodoaaDoor
open Go.ChangeShapes Go.WideShapes Go.ChangeAt Go.RowKit

theorem matchB (a : Addr) (P N : ByteArray) (p n : Bs) (w : World) (hE : Env a w) (hP : P.data.toList = p) (hN : N.data.toList = n) (hp : p.length ≤ 1000000000) (hn : n.length ≤ 1000000000) :
    Calls Tryd.prog 26 #[.string P, .string N] w fun e w' => e = .returned (.tuple #[.bool (mm p n), .bool (bb p)]) ∧ Below w.heap.size w w' := by
  rw [str_eq hP, str_eq hN]
  exact implMatch a p n w hE hp hn
theorem yesB (a : Addr) (P N : ByteArray) (p n : Bs) (w : World) (hE : Env a w) (hP : P.data.toList = p) (hN : N.data.toList = n) (hp : p.length ≤ 1000000000) (hn : n.length ≤ 1000000000) :
    Calls Tryd.prog 7 #[.string P, .string N] w fun e w' => e = .returned (.bool (mm p n)) ∧ Below w.heap.size w w' := by
  rw [str_eq hP, str_eq hN]
  exact yes_call a p n w hE hp hn
theorem mm_star_nil : mm [42] [] = true := by
  rw [mm_eq]
  rfl
theorem yesStar (a : Addr) (w : World) (hE : Env a w) : Calls Tryd.prog 7 #[.string ⟨#[42]⟩, .string ⟨#[]⟩] w fun e w' => e = .returned (.bool true) ∧ Below w.heap.size w w' := by
  have h := yesB a ⟨#[42]⟩ ⟨#[]⟩ [42] [] w hE rfl rfl (by simp) (by simp)
  rw [mm_star_nil] at h
  exact h

/-- laws.alike. -/
def alikeF (p q n : Bs) : Bool := decide (bb p = bb q) && (bb p || decide (mm p n = mm q n))
theorem alikeF_true {p q n : Bs} (h1 : bb p = bb q) (h2 : bb p = true ∨ mm p n = mm q n) : alikeF p q n = true := by
  unfold alikeF
  rw [decide_eq_true h1, Bool.true_and]
  rcases h2 with h | h
  · rw [h]; rfl
  · rw [decide_eq_true h, Bool.or_true]


end Go.Proofs.YtcoaoheakeodoaaDoor

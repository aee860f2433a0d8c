/-
  impl.Match, impl.Fails, laws.yes, laws.alike at strings that are put together: contracts. Conditions: none beyond those of each theorem.
-/
import Derived.Test.YtlfppmhkgfhecaaDoorImpl
import Derived.Test.YtlfppmhkgfhecaaDoorRunes
namespace Go.Proofs.YtlfppmhkgfhecaaDoor
open Go.ChangeShapes Go.WideShapes Go.ChangeAt Go.RowKit

theorem matchB (a : Addr) (P N : ByteArray) (p n : Bs) (w : World) (hE : Env a w) (hP : P.data.toList = p) (hN : N.data.toList = n) (hp : p.length ≤ 1000000000) (hn : n.length ≤ 1000000000) :
    Calls Tryd.prog 32 #[.string P, .string N] w fun e w' => e = .returned (.tuple #[.bool (mm p n), .bool (bb p)]) ∧ Below w.heap.size w w' := by
  rw [str_eq hP, str_eq hN]
  exact implMatch a p n w hE hp hn
theorem yesB (a : Addr) (P N : ByteArray) (p n : Bs) (w : World) (hE : Env a w) (hP : P.data.toList = p) (hN : N.data.toList = n) (hp : p.length ≤ 1000000000) (hn : n.length ≤ 1000000000) :
    Calls Tryd.prog 16 #[.string P, .string N] w fun e w' => e = .returned (.bool (mm p n)) ∧ Below w.heap.size w w' := by
  rw [str_eq hP, str_eq hN]
  exact yes_call a p n w hE hp hn
theorem mm_star_nil : mm [42] [] = true := by
  rw [mm_eq]
  rfl
theorem yesStar (a : Addr) (w : World) (hE : Env a w) : Calls Tryd.prog 16 #[.string ⟨#[42]⟩, .string ⟨#[]⟩] w fun e w' => e = .returned (.bool true) ∧ Below w.heap.size w w' := by
  have h := yesB a ⟨#[42]⟩ ⟨#[]⟩ [42] [] w hE rfl rfl (by simp) (by simp)
  rw [mm_star_nil] at h
  exact h

/-- laws.alike. -/
def alikeF (p q n : Bs) : Bool := decide (bb p = bb q) && (bb p || decide (mm p n = mm q n))
theorem alikeF_true {p q n : Bs} (h1 : bb p = bb q) (h2 : bb p = true ∨ mm p n = mm q n) : alikeF p q n = true := by
  unfold alikeF
  rw [decide_eq_true h1, Bool.true_and]
  rcases h2 with h | h
  · rw [h]; rfl
  · rw [decide_eq_true h, Bool.or_true]

theorem alikeB (a : Addr) (P Q N : ByteArray) (p q n : Bs) (w : World) (hE : Env a w) (hP : P.data.toList = p) (hQ : Q.data.toList = q) (hN : N.data.toList = n) (hp : p.length ≤ 1000000000) (hq : q.length ≤ 1000000000) (hn : n.length ≤ 1000000000) :
    Calls Tryd.prog 20 #[.string P, .string Q, .string N] w fun e w' => e = .returned (.bool (alikeF p q n)) ∧ Below w.heap.size w w' := by
  rw [str_eq hP, str_eq hQ, str_eq hN]
  have HE := Lib.hid hE
  clear hE hP hQ hN
  go_enter Tryd.func20, Tryd.ntmps20
  go_wp2_with fail
  refine (implMatch a p n w HE.out hp hn).mono ?_
  rintro e w1 ⟨rfl, hb⟩
  have HE1 := Lib.hid (HE.out.on hb)
  have HB1 := Lib.hid hb
  clear hb HE
  go_wp2_with fail
  refine (implMatch a q n w1 HE1.out hq hn).mono ?_
  rintro e w2 ⟨rfl, hb⟩
  have HB2 := Lib.hid (HB1.out.trans (hb.mono HB1.out.size))
  clear hb HE1 HB1
  have HF : Hid (alikeF p q n = (decide (bb p = bb q) && (bb p || decide (mm p n = mm q n)))) := Lib.hid rfl
  generalize mm p n = M at *
  generalize bb p = B at *
  generalize mm q n = W at *
  generalize bb q = X at *
  cases B <;> cases X <;> cases M <;> cases W
  all_goals
    go_wp2
    go_ret
    exact ⟨by rw [HF.out]; rfl, HB2.out⟩

end Go.Proofs.YtlfppmhkgfhecaaDoor

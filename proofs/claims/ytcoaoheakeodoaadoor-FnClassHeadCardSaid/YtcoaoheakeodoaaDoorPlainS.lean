/-
  spec.special, spec.IsPlain: contracts. Conditions: none beyond those of each theorem.
-/
import Derived.Test.YtcoaoheakeodoaaDoorMatchR
import Derived.Test.YtcoaoheakeodoaaDoorBase
import Derived.Test.YtcoaoheakeodoaaDoorWriteT
import Derived.Laws.RangeAny
namespace Go.Proofs.YtcoaoheakeodoaaDoor
open Go.ChangeShapes Go.WideShapes Go.ChangeAt Go.RowKit


theorem special_call (c : Nat) (w : World) (hc : c ≤ 2147483647) :
    Calls Tryd.prog 30 #[.int .i32 (c : Nat)] w fun e w' => e = .returned (.bool (spB c)) ∧ w' = w := by
  by_cases h1 : c = 42
  · subst h1
    go_enter Tryd.func30, Tryd.ntmps30
    go_wp2
    go_ret
    exact ⟨rfl, rfl⟩
  · by_cases h2 : c = 63
    · subst h2
      go_enter Tryd.func30, Tryd.ntmps30
      go_wp2
      go_ret
      exact ⟨rfl, rfl⟩
    · by_cases h3 : c = 91
      · subst h3
        go_enter Tryd.func30, Tryd.ntmps30
        go_wp2
        go_ret
        exact ⟨rfl, rfl⟩
      · by_cases h4 : c = 92
        · subst h4
          go_enter Tryd.func30, Tryd.ntmps30
          go_wp2
          go_ret
          exact ⟨rfl, rfl⟩
        · have e1 : (((c : Nat) : Int) == 42) = false := by simp; omega
          have e2 : (((c : Nat) : Int) == 63) = false := by simp; omega
          have e3 : (((c : Nat) : Int) == 91) = false := by simp; omega
          have e4 : (((c : Nat) : Int) == 92) = false := by simp; omega
          have HF : Hid (false = spB c) := by apply Lib.hid; simp [spB, h1, h2, h3, h4]
          clear h1 h2 h3 h4
          go_enter Tryd.func30, Tryd.ntmps30
          go_wp2
          go_ret
          exact ⟨by rw [← HF.out]; rfl, rfl⟩

def plainRel (l : List UInt8) (w w' : World) : Prop := ∃ pos, pos ≤ l.length ∧ w' = w.iter ⟨l.toArray⟩ pos ∧ (runes l).all (fun c => !spB c) = (runes (l.drop pos)).all (fun c => !spB c)


end Go.Proofs.YtcoaoheakeodoaaDoor

/-
  spec.element, spec.closes, spec.bad: contracts. Conditions: none beyond those of each theorem.
-/
import Derived.Test.YtcoaoheakeodoaaDoorTermR
import Derived.Test.YtcoaoheakeodoaaDoorRead
namespace Go.Proofs.YtcoaoheakeodoaaDoor
open Go.ChangeShapes Go.WideShapes Go.ChangeAt Go.RowKit

/-- What spec.element returns. -/
def ElemPost (cs : List Nat) (i : Nat) (w : World) (e : Ending) (w' : World) : Prop := w = w' ∧
  ((elemR (cs.drop i) = none ∧ ∃ j : Nat, e = .returned (.tuple #[.int .i32 0, .int .i64 (j : Nat), .bool false])) ∨
   (∃ c j : Nat, elemR (cs.drop i) = some (c, cs.drop j) ∧ i < j ∧ j ≤ cs.length ∧ e = .returned (.tuple #[.int .i32 (c : Nat), .int .i64 (j : Nat), .bool true])))

theorem drop_cons {cs : List Nat} {i c : Nat} (h : cs[i]? = some c) : cs.drop i = c :: cs.drop (i + 1) := by
  obtain ⟨hi, e⟩ := List.getElem?_eq_some_iff.1 h
  rw [List.drop_eq_getElem_cons hi, e]

/-- The character at a place, as the walk reads it. -/
theorem RunesAt.get {w : World} {a : Option Addr} {len cap : Nat} {cs : List Nat} (h : RunesAt w a len cap cs) {i : Nat} (hi : i < len) : ∃ c g o, cs[i]? = some c ∧ a = some ⟨g, o, none⟩ ∧ g < w.heap.size ∧ w.cell? ⟨g, o + i, none⟩ = some (.int .i32 (c : Nat)) := by
  have hi' : i < cs.length := by rw [h.1]; exact hi
  have hc := List.getElem?_eq_getElem hi'
  obtain ⟨g, o, e, hg, hcell⟩ := h.2.2 i _ hc
  exact ⟨_, g, o, hc, e, hg, hcell⟩

set_option maxHeartbeats 1000000 in
theorem element_call (a : Option Addr) (len cap i : Nat) (cs : List Nat) (w : World) (h : RunesAt w a len cap cs) (_hl : len ≤ 1000000000) (_hi : i ≤ 1000000001) :
    Calls Tryd.prog 49 #[.slice a len cap, .int .i64 (i : Nat)] w (ElemPost cs i w) := by
  have HA := Lib.hid h
  have hcl := h.1
  have HL := Lib.hid hcl
  clear h hcl
  by_cases h1 : i < len
  · obtain ⟨c, g, o, hc, rfl, hg, c1⟩ := HA.out.get h1
    have HD := Lib.hid (drop_cons hc)
    clear hc
    by_cases c92 : c = 92
    · subst c92
      by_cases h2 : i + 1 = len
      · have h2' : (((i : Nat) : Int) + 1 == ((len : Nat) : Int)) = true := by simp; omega
        have HP : Hid (elemR (cs.drop i) = none) := by
          apply Lib.hid
          rw [HD.out, elemR_cons, if_pos rfl, List.drop_eq_nil_of_le (by have := HL.out; omega)]
        clear HD h2 HA
        go_enter Tryd.func49, Tryd.ntmps49
        go_wp2
        go_ret3
        exact ⟨rfl, .inl ⟨HP.out, i + 1, rfl⟩⟩
      · obtain ⟨d, g', o', hd, e', hg', c2⟩ := HA.out.get (i := i + 1) (by omega)
        injection e' with e'
        injection e' with e1 e2
        subst e1
        subst e2
        have h2' : (((i : Nat) : Int) + 1 == ((len : Nat) : Int)) = false := by simp; omega
        have HP : Hid (elemR (cs.drop i) = some (d, cs.drop (i + 2))) := by
          apply Lib.hid
          rw [HD.out, elemR_cons, if_pos rfl, drop_cons hd]
        have h3 : i + 1 < len := by omega
        clear HD h2 HA hd
        go_enter Tryd.func49, Tryd.ntmps49
        go_wp2
        go_ret3
        exact ⟨rfl, .inr ⟨d, i + 2, HP.out, by omega, by have := HL.out; omega, by go_num⟩⟩
    · have b92 : (((c : Nat) : Int) == 92) = false := by simp; omega
      by_cases c2 : c = 45 ∨ c = 93
      · have HP : Hid (elemR (cs.drop i) = none) := by
          apply Lib.hid
          rw [HD.out, elemR_cons, if_neg c92, if_pos c2]
        clear HD HA c92
        rcases c2 with rfl | rfl
        all_goals
          go_enter Tryd.func49, Tryd.ntmps49
          go_wp2
          go_ret3
          exact ⟨rfl, .inl ⟨HP.out, i, rfl⟩⟩
      · have HP : Hid (elemR (cs.drop i) = some (c, cs.drop (i + 1))) := by
          apply Lib.hid
          rw [HD.out, elemR_cons, if_neg c92, if_neg c2]
        have b45 : (((c : Nat) : Int) == 45) = false := by simp; omega
        have b93 : (((c : Nat) : Int) == 93) = false := by simp; omega
        clear HD HA c92 c2
        go_enter Tryd.func49, Tryd.ntmps49
        go_wp2
        go_ret3
        exact ⟨rfl, .inr ⟨c, i + 1, HP.out, by omega, by have := HL.out; omega, by go_num⟩⟩
  · have HP : Hid (elemR (cs.drop i) = none) := by
      apply Lib.hid
      rw [List.drop_eq_nil_of_le (by have := HL.out; omega)]
      rfl
    clear HA
    go_enter Tryd.func49, Tryd.ntmps49
    go_wp2
    go_ret3
    exact ⟨rfl, .inl ⟨HP.out, i, rfl⟩⟩

theorem closes_call (a : Option Addr) (len cap i : Nat) (cs : List Nat) (w : World) (h : RunesAt w a len cap cs) (_hl : len ≤ 1000000000) (_hi : i ≤ 1000000001) :
    Calls Tryd.prog 48 #[.slice a len cap, .int .i64 (i : Nat)] w fun e w' => e = .returned (.bool (closesR (cs.drop i))) ∧ w = w' := by
  have HA := Lib.hid h
  have hcl := h.1
  have HL := Lib.hid hcl
  clear h hcl
  by_cases h1 : i < len
  · obtain ⟨c, g, o, hc, rfl, hg, c1⟩ := HA.out.get h1
    have HD := Lib.hid (drop_cons hc)
    clear hc HA
    by_cases c2 : c = 45 ∨ c = 93
    · have HP : Hid (closesR (cs.drop i) = true) := by
        apply Lib.hid
        rw [HD.out]
        exact decide_eq_true c2
      clear HD
      rcases c2 with rfl | rfl
      all_goals
        go_enter Tryd.func48, Tryd.ntmps48
        go_wp2
        go_ret
        exact ⟨by rw [HP.out]; rfl, rfl⟩
    · have HP : Hid (closesR (cs.drop i) = false) := by
        apply Lib.hid
        rw [HD.out]
        exact decide_eq_false c2
      have b45 : (((c : Nat) : Int) == 45) = false := by simp; omega
      have b93 : (((c : Nat) : Int) == 93) = false := by simp; omega
      clear HD c2
      go_enter Tryd.func48, Tryd.ntmps48
      go_wp2
      go_ret
      exact ⟨by rw [HP.out]; rfl, rfl⟩
  · have HP : Hid (closesR (cs.drop i) = false) := by
      apply Lib.hid
      rw [List.drop_eq_nil_of_le (by have := HL.out; omega)]
      rfl
    clear HA
    go_enter Tryd.func48, Tryd.ntmps48
    go_wp2
    go_ret
    exact ⟨by rw [HP.out]; rfl, rfl⟩

theorem bad_call (s : Bool) (w : World) :
    Calls Tryd.prog 29 #[.bool s] w fun e w' => e = .returned (.agg #[.slice none 0 0, .bool false, .bool s]) ∧ Below w.heap.size w w' := by
  go_enter Tryd.func29, Tryd.ntmps29
  go_wp2
  refine bodyPost_ret (v := .agg #[.slice none 0 0, .bool false, .bool s]) (by simp [results, Tryd.results29, go_sem]) rfl ?_
  exact ⟨rfl, (Below.refl _ _).alloc (Nat.le_refl _) _⟩

end Go.Proofs.YtcoaoheakeodoaaDoor

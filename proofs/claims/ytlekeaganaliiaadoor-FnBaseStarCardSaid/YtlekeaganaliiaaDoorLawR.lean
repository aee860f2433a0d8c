/-
  Base and a star; elements that are joined: plain laws. Conditions: none beyond those of each theorem.
-/
import Derived.Test.YtlekeaganaliiaaDoorLawP
import Derived.Test.YtlekeaganaliiaaDoorLawQ
namespace Go.Proofs.YtlekeaganaliiaaDoor
open Go Go.Lib.Pa

theorem trim_nil (l : Bs) : Lib.trimS l [47] = [] ↔ trimSlashes l = [] := by
  have e : Lib.trimRightS l [47] = trimSlashes l := by
    unfold Lib.trimRightS trimSlashes
    congr 2
    funext b
    exact Lib.contains_one 47 b
  unfold Lib.trimS Lib.trimLeftS
  rw [e]
  constructor
  · intro h
    apply Classical.byContradiction
    intro hn
    have hlast : ∃ c, (trimSlashes l).getLast? = some c ∧ c ≠ 47 := by
      unfold trimSlashes at hn ⊢
      rw [List.getLast?_reverse]
      cases hd : l.reverse.dropWhile (· == 47) with
      | nil => rw [hd] at hn; exact absurd rfl hn
      | cons c t =>
        refine ⟨c, rfl, fun e => ?_⟩
        have := List.head?_dropWhile_not (fun x : UInt8 => x == 47) l.reverse
        rw [hd] at this
        subst e
        simp at this
    obtain ⟨c, hc, hne⟩ := hlast
    have hall : ∀ (x : List UInt8), x.dropWhile (([47] : List UInt8).contains ·) = [] → ∀ b ∈ x, b = 47 := by
      intro x
      induction x with
      | nil => intro _ b hb; cases hb
      | cons d x ih =>
        intro hx b hb
        rw [List.dropWhile_cons] at hx
        by_cases hd : (([47] : List UInt8).contains d) = true
        · rw [if_pos hd] at hx
          rcases List.mem_cons.1 hb with rfl | hb
          · simpa using hd
          · exact ih hx b hb
        · rw [if_neg hd] at hx
          cases hx
    exact hne (hall _ h c (List.mem_of_getLast? hc))
  · intro h
    rw [h]
    rfl
theorem base_facts (l : Bs) : base l ≠ [] ∧ (base l = [47] ∨ 47 ∉ base l) ∧ (base l = [47] ↔ l ≠ [] ∧ Lib.trimS l [47] = []) := by
  rw [trim_nil]
  by_cases hl : l = []
  · subst hl
    have e : base [] = [46] := rfl
    rw [e]
    exact ⟨by decide, .inr (by decide), by simp⟩
  · unfold base
    rw [if_neg hl]
    by_cases ht : trimSlashes l = []
    · have e : (split (trimSlashes l)).2 = [] := by rw [ht]; rfl
      rw [if_pos e]
      exact ⟨by decide, .inl rfl, by simp [hl, ht]⟩
    · have e := trim_end l ht
      have h7 := split_no47 (trimSlashes l)
      rw [if_neg e]
      refine ⟨e, .inr h7, ?_⟩
      constructor
      · intro h
        rw [h] at h7
        exact absurd List.mem_cons_self h7
      · rintro ⟨_, h⟩
        exact absurd h ht
/-- FnBaseStar. -/
theorem law_baseStar (l : Bs) : mm [42] (base l) = !(base l == [47]) ∧ (base l).isEmpty = false ∧ (base l == [47]) = (!l.isEmpty && (Lib.trimS l [47]).isEmpty) := by
  obtain ⟨h1, h2, h3⟩ := base_facts l
  refine ⟨?_, by cases h : base l with | nil => exact absurd h h1 | cons => rfl, ?_⟩
  · rw [(law_star (base l)).1]
    rcases h2 with h | h
    · rw [h]; rfl
    · have e1 : (base l).contains 47 = false := by simpa using h
      have e2 : (base l == [47]) = false := by
        rw [beq_eq_false_iff_ne]
        intro e
        rw [e] at h
        exact h List.mem_cons_self
      rw [e1, e2]
  · rw [Bool.eq_iff_iff, beq_iff_eq, h3, Bool.and_eq_true, List.isEmpty_iff]
    simp

theorem base_len (l : Bs) : (base l).length ≤ l.length + 1 := by
  have h1 : (split (trimSlashes l)).2.length ≤ (trimSlashes l).length := by unfold split; simp
  have h2 : (trimSlashes l).length ≤ l.length := by
    unfold trimSlashes
    rw [List.length_reverse]
    have := (List.dropWhile_sublist (fun x : UInt8 => x == 47) (l := l.reverse)).length_le
    rwa [List.length_reverse] at this
  unfold base
  split
  · simp
  · split
    · simp
    · omega

/-- spec.IsElement. -/
def isEl (s : Bs) : Bool := !(s == []) && (!(s == [46]) && (!(s == [46, 46]) && !s.contains 47))
theorem isEl_iff (s : Bs) : isEl s = true ↔ Elem s ∧ s ≠ [46, 46] := by
  unfold isEl Elem
  simp
  constructor
  · rintro ⟨a, b, c, d⟩; exact ⟨⟨a, b, d⟩, c⟩
  · rintro ⟨⟨a, b, d⟩, c⟩; exact ⟨a, b, c, d⟩
theorem normal_all (r : Bool) : ∀ (st : List Bs), (∀ x ∈ st, isEl x = true) → Normal r st
  | [], _ => trivial
  | x :: t, h => by
    obtain ⟨h1, h2⟩ := (isEl_iff x).1 (h x List.mem_cons_self)
    exact ⟨h1, normal_all r t (fun y hy => h y (List.mem_cons_of_mem _ hy)), fun e => absurd e h2⟩
/-- Join of elements is the elements with slashes between them. -/
theorem join_els (xs : List Bs) (hne : xs ≠ []) (h : ∀ x ∈ xs, isEl x = true) : join xs = jn xs := by
  have hn : Normal false xs.reverse := normal_all false _ (fun x hx => h x (by simpa using hx))
  have hf : xs.filter (· ≠ []) = xs := by
    rw [List.filter_eq_self]
    intro x hx
    have := ((isEl_iff x).1 (h x hx)).1.1
    simpa using this
  have hJ := J_ne hn (by simpa using hne)
  rw [List.reverse_reverse] at hJ
  unfold join
  rw [hf, if_neg hne]
  show clean (J xs) = J xs
  have hk : kept (J xs) = xs.reverse := by
    unfold kept
    rw [hJ.2, els_J_plain xs hne (fun x hx => ((isEl_iff x).1 (h x hx)).1.2.2)]
    have := fold_normal false xs.reverse hn
    rwa [List.reverse_reverse] at this
  rw [clean_of _ hJ.1, hJ.2, hk]
  unfold cleanOf
  rw [List.reverse_reverse, if_neg (by decide), if_neg hJ.1]

end Go.Proofs.YtlekeaganaliiaaDoor

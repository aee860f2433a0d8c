/-
  The law of Clean's answers against patterns. Conditions: none beyond those of each theorem.
-/
import Derived.Test.YtgdkepjimhmdbaaDoorLawS
namespace Go.Proofs.YtgdkepjimhmdbaaDoor
open Go Go.Lib

theorem first_sound (e : Bs) (last : Bool) : ∀ (s t : Bs), first true (lits e) last s = some t → ∃ a, s = a ++ e ++ t ∧ 47 ∉ a ∧ (last = true → t = [])
  | [], t, h => by
    unfold first at h
    rw [steps_lits] at h
    by_cases hp : e <+: []
    · rw [if_pos hp] at h
      have he : e = [] := List.prefix_nil.1 hp
      subst he
      have ht : t = [] := by
        cases last <;> simp at h <;> exact h
      subst ht
      exact ⟨[], rfl, by simp, fun _ => rfl⟩
    · rw [if_neg hp] at h
      cases h
  | b :: s, t, h => by
    have rec_ : (if (true && b != 47) = true then first true (lits e) last s else none) = some t → ∃ a, b :: s = a ++ e ++ t ∧ 47 ∉ a ∧ (last = true → t = []) := by
      intro h
      by_cases hb : (true && b != 47) = true
      · rw [if_pos hb] at h
        obtain ⟨a, e1, e2, e3⟩ := first_sound e last s t h
        have h7 : b ≠ 47 := by simpa using hb
        refine ⟨b :: a, by rw [e1]; simp, ?_, e3⟩
        intro hm
        rcases List.mem_cons.1 hm with h | h
        · exact h7 h.symm
        · exact e2 h
      · rw [if_neg hb] at h
        cases h
    unfold first at h
    rw [steps_lits] at h
    by_cases hp : e <+: b :: s
    · rw [if_pos hp] at h
      obtain ⟨u, hu⟩ := hp
      rw [← hu, List.drop_left] at h
      by_cases hc : (last && !u.isEmpty) = true
      · have h2 : (if (last && !u.isEmpty) = true then (if (true && b != 47) = true then first true (lits e) last s else none) else some u) = some t := h
        rw [if_pos hc] at h2
        exact rec_ h2
      · have h2 : (if (last && !u.isEmpty) = true then (if (true && b != 47) = true then first true (lits e) last s else none) else some u) = some t := h
        rw [if_neg hc] at h2
        injection h2 with h2
        subst h2
        refine ⟨[], by rw [← hu]; rfl, by simp, ?_⟩
        intro hl
        subst hl
        cases u with
        | nil => rfl
        | cons => exact absurd rfl hc
    · rw [if_neg hp] at h
      exact rec_ h

theorem mm_inv1 {p e : Bs} {ts : List Tm} (hp : parse false p = some ts) (ht : tsplit ts = [(true, lits e), (true, [])]) {s : Bs} (h : mm p s = true) : ∃ a b, s = a ++ e ++ b ∧ 47 ∉ a ∧ 47 ∉ b := by
  rw [mm_of hp] at h
  unfold gm at h
  rw [ht] at h
  have h2 : (match first true (lits e) false s with | some t => gmc [(true, [])] t | none => false) = true := h
  cases hf : first true (lits e) false s with
  | none => rw [hf] at h2; cases h2
  | some t =>
    rw [hf] at h2
    obtain ⟨a, e1, e2, _⟩ := first_sound e false s t hf
    have h3 : gm [Tm.star] t = true := h2
    rw [gm_star] at h3
    refine ⟨a, t, e1, e2, ?_⟩
    intro hm
    rw [List.contains_iff_mem.2 hm] at h3
    cases h3
theorem mm_inv2 {p e : Bs} {ts : List Tm} (hp : parse false p = some ts) (ht : tsplit ts = [(true, lits e)]) {s : Bs} (h : mm p s = true) : ∃ a, s = a ++ e ∧ 47 ∉ a := by
  rw [mm_of hp] at h
  unfold gm at h
  rw [ht] at h
  have h2 : (match first true (lits e) true s with | some t => gmc [] t | none => false) = true := h
  cases hf : first true (lits e) true s with
  | none => rw [hf] at h2; cases h2
  | some t =>
    obtain ⟨a, e1, e2, e3⟩ := first_sound e true s t hf
    rw [e3 rfl, List.append_nil] at e1
    exact ⟨a, e1, e2⟩
theorem mm_inv3 {p e : Bs} (hp : parse false p = some (lits e ++ [Tm.star])) {s : Bs} (h : mm p s = true) : ∃ b, s = e ++ b ∧ 47 ∉ b := by
  rw [mm_of hp, gm_lits_append] at h
  by_cases hc : e <+: s
  · rw [if_pos hc, gm_star] at h
    obtain ⟨b, rfl⟩ := hc
    rw [List.drop_left] at h
    refine ⟨b, rfl, ?_⟩
    intro hm
    rw [List.contains_iff_mem.2 hm] at h
    cases h
  · rw [if_neg hc] at h
    cases h
theorem mm_inv4 {p e : Bs} (hp : parse false p = some (lits e)) {s : Bs} (h : mm p s = true) : s = e := by
  rw [mm_of hp, gm_lits] at h
  exact of_decide_eq_true h

open Go.Lib.Pa in
theorem els_at : ∀ (a x : Bs), 47 ∉ a → els (a ++ 47 :: x) = a :: els x
  | [], x, _ => els_slash x
  | c :: a, x, h => by
    have hc : c ≠ 47 := fun e => h (by simp [e])
    have ih := els_at a x (fun e => h (by simp [e]))
    show els (c :: (a ++ 47 :: x)) = _
    conv => lhs; unfold els
    rw [if_neg hc, ih]

open Go.Lib.Pa in
theorem clean_shape (l : Bs) : els (clean l) = [[46]] ∨ clean l = [47] ∨ (∃ st, Normal false st ∧ els (clean l) = st.reverse) ∨ ∃ st, Normal true st ∧ els (clean l) = [] :: st.reverse := by
  by_cases hl : l = []
  · subst hl
    left
    decide
  · rw [clean_of l hl]
    have hn := kept_normal l
    generalize kept l = st at hn
    generalize ro l = r at hn
    have hno : ∀ x ∈ st.reverse, 47 ∉ x := fun x hx => (hn.elem x (by simpa using hx)).2.2
    unfold cleanOf
    by_cases hst : st = []
    · subst hst
      cases r with
      | true => right; left; rfl
      | false => left; decide
    · have hj := J_ne hn hst
      right; right
      cases r with
      | true =>
        right
        exact ⟨st, hn, by rw [if_pos rfl, els_slash, els_J_plain _ (by simpa using hst) hno]⟩
      | false =>
        left
        exact ⟨st, hn, by rw [if_neg (by simp), if_neg hj.1, els_J_plain _ (by simpa using hst) hno]⟩

theorem rev2 {st : List Bs} {x y : Bs} (h : st.reverse = [x, y]) : st = [y, x] := by
  have := congrArg List.reverse h
  simpa using this
theorem rev3 {st : List Bs} {x y z : Bs} (h : st.reverse = [x, y, z]) : st = [z, y, x] := by
  have := congrArg List.reverse h
  simpa using this
theorem rev1 {st : List Bs} {x : Bs} (h : st.reverse = [x]) : st = [x] := by
  have := congrArg List.reverse h
  simpa using this

open Go.Lib.Pa in
/-- Two elements. -/
theorem clean_two {l x y : Bs} (h : els (clean l) = [x, y]) : clean l = [47] ∨ (Normal false [y, x]) ∨ (x = [] ∧ Normal true [y]) := by
  rcases clean_shape l with e | e | ⟨st, hn, e⟩ | ⟨st, hn, e⟩
  · rw [e] at h; cases h
  · exact .inl e
  · rw [e] at h
    rw [rev2 h] at hn
    exact .inr (.inl hn)
  · rw [e] at h
    injection h with h1 h2
    rw [rev1 h2] at hn
    exact .inr (.inr ⟨h1.symm, hn⟩)
open Go.Lib.Pa in
theorem clean_three {l x y z : Bs} (h : els (clean l) = [x, y, z]) : (Normal false [z, y, x]) ∨ (x = [] ∧ Normal true [z, y]) := by
  rcases clean_shape l with e | e | ⟨st, hn, e⟩ | ⟨st, hn, e⟩
  · rw [e] at h; cases h
  · rw [e] at h
    have : els ([47] : Bs) = [[], []] := by decide
    rw [this] at h
    cases h
  · rw [e] at h
    rw [rev3 h] at hn
    exact .inl hn
  · rw [e] at h
    injection h with h1 h2
    rw [rev2 h2] at hn
    exact .inr ⟨h1.symm, hn⟩

theorem fls {b : Bool} (h : b = true → False) : b = false := by
  cases b with
  | false => rfl
  | true => exact (h rfl).elim

open Go.Lib.Pa in
/-- FnCleanMatch. -/
theorem law_cleanMatch (l : Bs) : mm [42, 47, 47, 42] (clean l) = false ∧ mm [42, 47, 46, 47, 42] (clean l) = false ∧ mm [46, 47, 42] (clean l) = false ∧ mm [42, 47, 46] (clean l) = false ∧ mm [47, 46, 46] (clean l) = false ∧ mm [47, 46, 46, 47, 42] (clean l) = false
    ∧ mm [42, 47] (clean l) = decide (clean l = [47]) ∧ (mm [42, 47, 46, 46] (clean l) = true → clean l = [46, 46, 47, 46, 46]) ∧ (mm [42, 47, 46, 46, 47, 42] (clean l) = true → mm [46, 46, 47, 46, 46, 47, 42] (clean l) = true) := by
  refine ⟨fls fun h => ?_, fls fun h => ?_, fls fun h => ?_, fls fun h => ?_, fls fun h => ?_, fls fun h => ?_, ?_, fun h => ?_, fun h => ?_⟩
  · obtain ⟨a, b, e, ha, hb⟩ := mm_inv1 (e := [47, 47]) rfl rfl h
    have he : els (clean l) = [a, [], b] := by
      rw [e, List.append_assoc]
      show els (a ++ 47 :: ([] ++ 47 :: b)) = _
      rw [els_at a _ ha, els_at [] b (by simp), els_one b hb]
    rcases clean_three he with hn | ⟨_, hn⟩
    · exact hn.2.1.1.1 rfl
    · exact hn.2.1.1.1 rfl
  · obtain ⟨a, b, e, ha, hb⟩ := mm_inv1 (e := [47, 46, 47]) rfl rfl h
    have he : els (clean l) = [a, [46], b] := by
      rw [e, List.append_assoc]
      show els (a ++ 47 :: ([46] ++ 47 :: b)) = _
      rw [els_at a _ ha, els_at [46] b (by decide), els_one b hb]
    rcases clean_three he with hn | ⟨_, hn⟩
    · exact hn.2.1.1.2.1 rfl
    · exact hn.2.1.1.2.1 rfl
  · obtain ⟨b, e, hb⟩ := mm_inv3 (e := [46, 47]) rfl h
    have he : els (clean l) = [[46], b] := by
      rw [e]
      show els ([46] ++ 47 :: b) = _
      rw [els_at [46] b (by decide), els_one b hb]
    rcases clean_two he with hn | hn | ⟨h, _⟩
    · rw [hn] at e; cases e
    · exact hn.2.1.1.2.1 rfl
    · cases h
  · obtain ⟨a, e, ha⟩ := mm_inv2 (e := [47, 46]) rfl rfl h
    have he : els (clean l) = [a, [46]] := by
      rw [e, els_at a _ ha, els_one [46] (by decide)]
    rcases clean_two he with hn | hn | ⟨_, hn⟩
    · rw [hn] at he
      have : els ([47] : Bs) = [[], []] := by decide
      rw [this] at he
      cases he
    · exact hn.1.2.1 rfl
    · exact hn.1.2.1 rfl
  · have e := mm_inv4 (e := [47, 46, 46]) rfl h
    have he : els (clean l) = [[], [46, 46]] := by rw [e]; decide
    rcases clean_two he with hn | hn | ⟨_, hn⟩
    · rw [hn] at e; cases e
    · exact hn.2.1.1.1 rfl
    · cases (hn.2.2 rfl).1
  · obtain ⟨b, e, hb⟩ := mm_inv3 (e := [47, 46, 46, 47]) rfl h
    have he : els (clean l) = [[], [46, 46], b] := by
      rw [e]
      show els ([] ++ 47 :: ([46, 46] ++ 47 :: b)) = _
      rw [els_at [] _ (by simp), els_at [46, 46] b (by decide), els_one b hb]
    rcases clean_three he with hn | ⟨_, hn⟩
    · exact hn.2.1.2.1.1.1 rfl
    · cases (hn.2.1.2.2 rfl).1
  · by_cases hc : clean l = [47]
    · rw [hc]
      rfl
    · rw [decide_eq_false hc]
      refine fls fun h => ?_
      obtain ⟨a, e, ha⟩ := mm_inv2 (e := [47]) rfl rfl h
      have he : els (clean l) = [a, []] := by
        rw [e, els_at a _ ha]
        rfl
      rcases clean_two he with hn | hn | ⟨_, hn⟩
      · exact hc hn
      · exact hn.1.1 rfl
      · exact hn.1.1 rfl
  · obtain ⟨a, e, ha⟩ := mm_inv2 (e := [47, 46, 46]) rfl rfl h
    have he : els (clean l) = [a, [46, 46]] := by
      rw [e, els_at a _ ha, els_one [46, 46] (by decide)]
    rcases clean_two he with hn | hn | ⟨_, hn⟩
    · rw [hn] at he
      have : els ([47] : Bs) = [[], []] := by decide
      rw [this] at he
      cases he
    · have := (hn.2.2 rfl).2 a (by simp)
      rw [e, this]
      rfl
    · cases (hn.2.2 rfl).1
  · obtain ⟨a, b, e, ha, hb⟩ := mm_inv1 (e := [47, 46, 46, 47]) rfl rfl h
    have he : els (clean l) = [a, [46, 46], b] := by
      rw [e, List.append_assoc]
      show els (a ++ 47 :: ([46, 46] ++ 47 :: b)) = _
      rw [els_at a _ ha, els_at [46, 46] b (by decide), els_one b hb]
    rcases clean_three he with hn | ⟨_, hn⟩
    · have h2 := (hn.2.1.2.2 rfl).2 a (by simp)
      have h3 : parse false [46, 46, 47, 46, 46, 47, 42] = some (lits [46, 46, 47, 46, 46, 47] ++ [Tm.star]) := rfl
      rw [e, h2, mm_of h3, gm_lits_append, if_pos ⟨b, rfl⟩]
      show gm [Tm.star] b = true
      rw [gm_star]
      cases hc : b.contains 47 with
      | false => rfl
      | true => exact absurd (List.contains_iff_mem.1 hc) hb
    · cases (hn.2.1.2.2 rfl).1

end Go.Proofs.YtgdkepjimhmdbaaDoor

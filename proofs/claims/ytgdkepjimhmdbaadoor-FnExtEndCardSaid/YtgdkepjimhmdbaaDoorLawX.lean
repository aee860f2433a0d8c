/-
  The laws of Ext. Conditions: none beyond those of each theorem.
-/
import Derived.Test.YtgdkepjimhmdbaaDoorLawS
namespace Go.Proofs.YtgdkepjimhmdbaaDoor
open Go Go.Lib

theorem first_lit_none (c : UInt8) (hc : c ≠ 47) : ∀ (s : Bs), c ∉ s → first true [Tm.lit c] false s = none
  | [], _ => rfl
  | b :: s, h => by
    have hb : b ≠ c := by rintro rfl; exact h (by simp)
    have e : steps [Tm.lit c] (some (b :: s)) = none := by
      show step (Tm.lit c) (b :: s) = none
      rw [step_lit, if_neg hb]
    unfold first
    rw [e]
    show (if (true && b != 47) then first true [Tm.lit c] false s else none) = none
    split
    · exact first_lit_none c hc s (fun hm => h (by simp [hm]))
    · rfl
theorem first_lit_some (c : UInt8) (r : Bs) : ∀ (a : Bs), c ∉ a → 47 ∉ a → first true [Tm.lit c] false (a ++ c :: r) = some r
  | [], _, _ => by
    have e : steps [Tm.lit c] (some (c :: r)) = some r := by
      show step (Tm.lit c) (c :: r) = some r
      rw [step_lit, if_pos rfl]
    show first true [Tm.lit c] false (c :: r) = _
    unfold first
    rw [e]
    rfl
  | b :: a, h, h47 => by
    have hb : b ≠ c := by rintro rfl; exact h (by simp)
    have h7 : b ≠ 47 := by rintro rfl; exact h47 (by simp)
    have e : steps [Tm.lit c] (some (b :: (a ++ c :: r))) = none := by
      show step (Tm.lit c) (b :: (a ++ c :: r)) = none
      rw [step_lit, if_neg hb]
    show first true [Tm.lit c] false (b :: (a ++ c :: r)) = _
    unfold first
    rw [e]
    show (if (true && b != 47) then first true [Tm.lit c] false (a ++ c :: r) else none) = _
    rw [if_pos (by simpa using h7)]
    exact first_lit_some c r a (fun hm => h (by simp [hm])) (fun hm => h47 (by simp [hm]))

/-- A star, a letter, and more behind a star. -/
theorem gm_star_lit_none (c : UInt8) (hc : c ≠ 47) (us : List Tm) (s : Bs) (h : c ∉ s) : gm (Tm.star :: Tm.lit c :: Tm.star :: us) s = false := by
  obtain ⟨d, ds, e⟩ : ∃ d ds, tsplit (Tm.star :: Tm.lit c :: Tm.star :: us) = (true, [Tm.lit c]) :: (true, d) :: ds := by
    have : ∃ d ds, tsplit (Tm.star :: us) = (true, d) :: ds := by
      unfold tsplit
      rw [if_pos rfl]
      split
      · exact ⟨_, _, rfl⟩
      · exact ⟨_, _, rfl⟩
      · exact ⟨_, _, rfl⟩
    obtain ⟨d, ds, e⟩ := this
    refine ⟨d, ds, ?_⟩
    have e2 : tsplit (Tm.lit c :: Tm.star :: us) = (false, [Tm.lit c]) :: (true, d) :: ds := by
      unfold tsplit
      rw [if_neg (by simp), e]
    conv => lhs; unfold tsplit
    rw [if_pos rfl, e2]
  unfold gm
  rw [e]
  show (match first true [Tm.lit c] false s with | some t => gmc _ t | none => false) = false
  rw [first_lit_none c hc s h]
theorem gm_star_lit_some (c : UInt8) (us : List Tm) (a r : Bs) (h : c ∉ a) (h47 : 47 ∉ a) : gm (Tm.star :: Tm.lit c :: Tm.star :: us) (a ++ c :: r) = gm (Tm.star :: us) r := by
  have : ∃ d ds, tsplit (Tm.star :: us) = (true, d) :: ds := by
    unfold tsplit
    rw [if_pos rfl]
    split
    · exact ⟨_, _, rfl⟩
    · exact ⟨_, _, rfl⟩
    · exact ⟨_, _, rfl⟩
  obtain ⟨d, ds, e⟩ := this
  have e2 : tsplit (Tm.lit c :: Tm.star :: us) = (false, [Tm.lit c]) :: (true, d) :: ds := by
    unfold tsplit
    rw [if_neg (by simp), e]
  have e3 : tsplit (Tm.star :: Tm.lit c :: Tm.star :: us) = (true, [Tm.lit c]) :: (true, d) :: ds := by
    conv => lhs; unfold tsplit
    rw [if_pos rfl, e2]
  unfold gm
  rw [e3, e]
  show (match first true [Tm.lit c] false (a ++ c :: r) with | some t => gmc ((true, d) :: ds) t | none => false) = _
  rw [first_lit_some c r a h h47]


theorem ext_cases (l : Bs) : (46 ∉ (Lib.Pa.split l).2 ∧ Lib.Pa.ext l = []) ∨ ∃ a r, (Lib.Pa.split l).2 = a ++ 46 :: r ∧ 46 ∉ r ∧ Lib.Pa.ext l = 46 :: r := by
  unfold Lib.Pa.ext
  generalize (Lib.Pa.split l).2 = f
  by_cases h : 46 ∈ f
  · right
    have hr : 46 ∈ f.reverse := by simpa using h
    obtain ⟨a, b, e, ha⟩ := List.eq_append_cons_of_mem hr
    have hl : f = b.reverse ++ 46 :: a.reverse := by
      have := congrArg List.reverse e
      simpa using this
    have hf : 46 ∉ a.reverse := by simpa using ha
    refine ⟨b.reverse, a.reverse, hl, hf, ?_⟩
    have ei : Lib.Pa.lastIndexByte (b.reverse ++ 46 :: a.reverse) 46 = b.reverse.length := by
      apply Lib.Pa.lastIdx_eq_of
      · simp
      · simp
      · intro j hj _
        rw [List.getElem?_append_right (by omega)]
        obtain ⟨k, hk⟩ : ∃ k, j - b.reverse.length = k + 1 := ⟨j - b.reverse.length - 1, by omega⟩
        rw [hk, List.getElem?_cons_succ]
        intro hh
        exact hf (List.mem_of_getElem? hh)
    rw [hl, ei, if_pos (by omega), show ((b.reverse.length : Int)).toNat = b.reverse.length by omega, List.drop_left' rfl]
  · left
    refine ⟨h, ?_⟩
    have : Lib.Pa.lastIndexByte f 46 = -1 := by
      rcases Lib.Pa.lastIndexByte_spec f 46 with ⟨h1, _⟩ | ⟨i, _, hi, _⟩
      · exact h1
      · exact absurd (List.mem_of_getElem? hi) h
    rw [this, if_neg (by omega)]

theorem ext_len (p : Bs) : (Lib.Pa.ext p).length ≤ p.length := by
  have hc := congrArg List.length (split_cat p)
  rw [List.length_append] at hc
  rcases ext_cases p with ⟨_, e⟩ | ⟨a, r, hf, _, e⟩
  · rw [e]; simp
  · have := congrArg List.length hf
    rw [List.length_append] at this
    rw [e]
    omega

/-- FnExtStar. -/
theorem law_extStar (p : Bs) : mm [42, 46, 42] (Lib.Pa.split p).2 = !(Lib.Pa.ext p).isEmpty ∧ mm [46, 42] (Lib.Pa.ext p) = !(Lib.Pa.ext p).isEmpty ∧ mm [42, 46, 42, 46, 42] (Lib.Pa.ext p) = false ∧ mm [42] (Lib.Pa.ext p) = true := by
  have h1 : parse false [42, 46, 42] = some [Tm.star, Tm.lit 46, Tm.star] := rfl
  have h2 : parse false [46, 42] = some [Tm.lit 46, Tm.star] := rfl
  have h3 : parse false [42, 46, 42, 46, 42] = some [Tm.star, Tm.lit 46, Tm.star, Tm.lit 46, Tm.star] := rfl
  have h47 := split_no47 p
  have hst : ∀ r : Bs, 47 ∉ r → gm [Tm.star] r = true := by
    intro r h
    rw [gm_star]
    cases hc : r.contains 47 with
    | false => rfl
    | true => exact absurd (List.contains_iff_mem.1 hc) h
  have hnil : ∀ r : Bs, 47 ∉ r → mm [42] r = true := by
    intro r h
    rw [(law_star r).1, ← gm_star]
    exact hst r h
  rw [mm_of h1, mm_of h2, mm_of h3]
  rcases ext_cases p with ⟨hn, e⟩ | ⟨a, r, hf, hr, e⟩
  · rw [e]
    exact ⟨gm_star_lit_none 46 (by decide) _ _ hn, rfl, rfl, hnil [] (by simp)⟩
  · rw [e]
    have h47r : 47 ∉ r := by
      intro hm
      exact h47 (by rw [hf]; simp [hm])
    refine ⟨?_, ?_, ?_, hnil _ (by simpa using h47r)⟩
    · have hm46 : (46 : UInt8) ∈ (Lib.Pa.split p).2 := by rw [hf]; simp
      obtain ⟨x, y, ex, hx⟩ := List.eq_append_cons_of_mem hm46
      have hx7 : 47 ∉ x := by intro hm; exact h47 (by rw [ex]; simp [hm])
      have hy7 : 47 ∉ y := by intro hm; exact h47 (by rw [ex]; simp [hm])
      rw [ex, gm_star_lit_some 46 [] x y hx hx7, hst y hy7]
      rfl
    · rw [gm_cons _ _ (by decide), step_lit, if_pos rfl]
      exact hst r h47r
    · have := gm_star_lit_some 46 [Tm.lit 46, Tm.star] [] r (by simp) (by simp)
      rw [List.nil_append] at this
      rw [this]
      exact gm_star_lit_none 46 (by decide) _ _ hr


theorem valid_dot (b : Bs) : ∀ (n : Nat) (a : Bs), a.length ≤ n → validD (a ++ 46 :: b) = true → validD a = true ∧ validD b = true
  | _, [], _, h => by
    rw [List.nil_append, validD_cons 46 b (by decide)] at h
    exact ⟨validD_nil, h⟩
  | 0, _ :: _, h, _ => by simp at h
  | n + 1, x :: a, hn, h => by
    have hne : x :: a ++ 46 :: b ≠ [] := by simp
    have hd : dec (x :: a ++ 46 :: b) = decodeL (x :: a ++ 46 :: b) := by unfold dec; rw [if_neg hne]
    rw [validD_step _ hne, ← hd] at h
    have hnb : ¬ badDec (x :: a ++ 46 :: b) := by
      intro hb
      unfold badDec at hb
      rw [if_pos hb] at h
      cases h
    have hnb' := hnb
    unfold badDec at hnb'
    rw [if_neg hnb'] at h
    have hle : (dec (x :: a ++ 46 :: b)).2 ≤ (x :: a).length := by
      rcases dec_bytes hne hnb with ⟨h1, _⟩ | ⟨_, h2⟩
      · rw [h1]; simp
      · cases Nat.lt_or_ge (x :: a).length (dec (x :: a ++ 46 :: b)).2 with
        | inl hlt =>
          have := h2 (x :: a).length hlt
          rw [List.getD_eq_getElem?_getD, List.getElem?_append_right (Nat.le_refl _), Nat.sub_self] at this
          exact absurd (show 128 ≤ (46 : UInt8).toNat from this) (by decide)
        | inr hge => exact hge
    have hge := dec_ge hne
    have ht := dec_take (x :: a ++ 46 :: b) (x :: a).length (by simp) (by simp)
    rw [List.take_left, if_pos hle] at ht
    rw [List.drop_append_of_le_length hle] at h
    obtain ⟨i1, i2⟩ := valid_dot b n ((x :: a).drop (dec (x :: a ++ 46 :: b)).2) (by rw [List.length_drop]; simp only [List.length_cons] at hn ⊢; omega) h
    refine ⟨?_, i2⟩
    have hd2 : dec (x :: a) = decodeL (x :: a) := by unfold dec; rw [if_neg (by simp)]
    rw [validD_step _ (by simp), ← hd2, ht, if_neg hnb']
    exact i1

theorem first_lits_end (e : Bs) : ∀ (a : Bs), 47 ∉ a → first true (lits e) true (a ++ e) = some []
  | [], _ => by
    have h : steps (lits e) (some e) = some [] := by
      rw [steps_lits, if_pos (List.prefix_refl e), List.drop_length]
    rw [List.nil_append]
    cases e with
    | nil => rfl
    | cons b e =>
      unfold first
      rw [h]
      rfl
  | b :: a, h47 => by
    have ih := first_lits_end e a (fun hm => h47 (by simp [hm]))
    have h7 : b ≠ 47 := by rintro rfl; exact h47 (by simp)
    have hb : (true && b != 47) = true := by simpa using h7
    show first true (lits e) true (b :: (a ++ e)) = _
    unfold first
    cases steps (lits e) (some (b :: (a ++ e))) with
    | none =>
      show (if (true && b != 47) then first true (lits e) true (a ++ e) else none) = _
      rw [if_pos hb]
      exact ih
    | some t =>
      show (if (true && !t.isEmpty) then (if (true && b != 47) then first true (lits e) true (a ++ e) else none) else some t) = _
      cases t with
      | nil => rfl
      | cons x t =>
        show (if (true && b != 47) = true then first true (lits e) true (a ++ e) else none) = _
        rw [if_pos hb]
        exact ih
theorem gm_star_lits (e a : Bs) (h : 47 ∉ a) (he : e ≠ []) : gm (Tm.star :: lits e) (a ++ e) = true := by
  have hne : lits e ≠ [] := by cases e with | nil => exact absurd rfl he | cons => simp [lits]
  have e1 : tsplit (lits e) = [(false, lits e)] := by
    have := tsplit_plain (lits e) [] (lits_kind e) (.inl rfl) hne
    rw [List.append_nil] at this
    exact this
  have e2 : tsplit (Tm.star :: lits e) = [(true, lits e)] := by
    unfold tsplit
    rw [if_pos rfl, e1]
  unfold gm
  rw [e2]
  show (match first true (lits e) true (a ++ e) with | some t => gmc [] t | none => false) = true
  rw [first_lits_end e a h]
  rfl

theorem ext_base (p : Bs) (h : p ≠ []) (hs : ([47] : Bs).isSuffixOf p = false) : Lib.Pa.base p = (Lib.Pa.split p).2 ∧ Lib.Pa.ext (Lib.Pa.split p).2 = Lib.Pa.ext p := by
  refine ⟨(base_of p h ?_).1, ?_⟩
  · intro hl
    have : ([47] : Bs) <:+ p := by
      obtain ⟨x, hx⟩ := List.getLast?_eq_some_iff.1 hl
      exact ⟨x, hx.symm⟩
    rw [List.isSuffixOf_iff_suffix.2 this] at hs
    cases hs
  · conv => lhs; unfold Lib.Pa.ext
    rw [split_none _ (split_no47 p)]
    rfl

/-- FnExtEnd. -/
theorem law_extEnd {p : Bs} (hv : validD p = true) : mm (42 :: quoteB (Lib.Pa.ext p)) (Lib.Pa.split p).2 = true := by
  have h47 := split_no47 p
  rcases ext_cases p with ⟨_, e⟩ | ⟨a, r, hf, _, e⟩
  · rw [e]
    have : (42 :: quoteB []) = ([42] : Bs) := rfl
    rw [this, (law_star _).1]
    cases hc : (Lib.Pa.split p).2.contains 47 with
    | false => rfl
    | true => exact absurd (List.contains_iff_mem.1 hc) h47
  · have hvf := (valid_split hv).2
    rw [hf] at hvf
    have hvr := (valid_dot r _ a (Nat.le_refl _) hvf).2
    have hve : validD (46 :: r) = true := by rw [validD_cons 46 r (by decide)]; exact hvr
    have hq : parse false (quoteB (46 :: r)) = some (lits (46 :: r)) := by
      have := parse_quoteB hve []
      rw [List.append_nil, parse_nil] at this
      rw [this]
      show some (lits (46 :: r) ++ []) = _
      rw [List.append_nil]
    have hp : parse false (42 :: quoteB (46 :: r)) = some (Tm.star :: lits (46 :: r)) := by
      rw [parse_star, hq]
      rfl
    rw [e, mm_of hp, hf]
    exact gm_star_lits (46 :: r) a (fun hm => h47 (by rw [hf]; simp [hm])) (by simp)

end Go.Proofs.YtgdkepjimhmdbaaDoor

/-
  Valid texts around a slash; the laws of Split. Conditions: none beyond those of each theorem.
-/
import Derived.Test.YtgdkepjimhmdbaaDoorLawT
import Derived.Test.YtgdkepjimhmdbaaDoorPathT
namespace Go.Proofs.YtgdkepjimhmdbaaDoor
open Go Go.Lib

theorem valid_slash (b : Bs) : ∀ (n : Nat) (a : Bs), a.length ≤ n → validD (a ++ 47 :: b) = true → validD a = true ∧ validD b = true
  | _, [], _, h => by
    rw [List.nil_append, validD_cons 47 b (by decide)] at h
    exact ⟨validD_nil, h⟩
  | 0, _ :: _, h, _ => by simp at h
  | n + 1, x :: a, hn, h => by
    have hne : x :: a ++ 47 :: b ≠ [] := by simp
    have hd : dec (x :: a ++ 47 :: b) = decodeL (x :: a ++ 47 :: b) := by unfold dec; rw [if_neg hne]
    rw [validD_step _ hne, ← hd] at h
    have hnb : ¬ badDec (x :: a ++ 47 :: b) := by
      intro hb
      unfold badDec at hb
      rw [if_pos hb] at h
      cases h
    have hnb' := hnb
    unfold badDec at hnb'
    rw [if_neg hnb'] at h
    have hle : (dec (x :: a ++ 47 :: b)).2 ≤ (x :: a).length := by
      rcases dec_bytes hne hnb with ⟨h1, _⟩ | ⟨_, h2⟩
      · rw [h1]; simp
      · cases Nat.lt_or_ge (x :: a).length (dec (x :: a ++ 47 :: b)).2 with
        | inl hlt =>
          have := h2 (x :: a).length hlt
          rw [List.getD_eq_getElem?_getD, List.getElem?_append_right (Nat.le_refl _), Nat.sub_self] at this
          exact absurd (show 128 ≤ (47 : UInt8).toNat from this) (by decide)
        | inr hge => exact hge
    have hge := dec_ge hne
    have ht := dec_take (x :: a ++ 47 :: b) (x :: a).length (by simp) (by simp)
    rw [List.take_left, if_pos hle] at ht
    rw [List.drop_append_of_le_length hle] at h
    obtain ⟨i1, i2⟩ := valid_slash b n ((x :: a).drop (dec (x :: a ++ 47 :: b)).2) (by rw [List.length_drop]; simp only [List.length_cons] at hn ⊢; omega) h
    refine ⟨?_, i2⟩
    have hd2 : dec (x :: a) = decodeL (x :: a) := by unfold dec; rw [if_neg (by simp)]
    rw [validD_step _ (by simp), ← hd2, ht, if_neg hnb']
    exact i1
theorem valid_app {a b : Bs} (ha : validD a = true) (hb : validD b = true) : validD (a ++ b) = true := by
  obtain ⟨s1, e1⟩ := valid_runes _ a (Nat.le_refl _) ha
  obtain ⟨s2, e2⟩ := valid_runes _ b (Nat.le_refl _) hb
  rw [← e1, ← e2, ← encs_append]
  exact valid_encs _ (scs_append.2 ⟨s1, s2⟩)
theorem valid_split {p : Bs} (h : validD p = true) : validD (Lib.Pa.split p).1 = true ∧ validD (Lib.Pa.split p).2 = true := by
  rcases split_cases p with ⟨_, e⟩ | ⟨x, f, e, _, e2⟩
  · rw [e]
    exact ⟨validD_nil, h⟩
  · rw [e2]
    rw [e] at h
    obtain ⟨h1, h2⟩ := valid_slash f _ x (Nat.le_refl _) h
    exact ⟨valid_app h1 (by rw [validD_cons 47 [] (by decide)]; exact validD_nil), h2⟩

/-- FnSplitMatch. -/
theorem law_splitMatch {d f : Bs} (hd : validD d = true) (hf : validD f = true) (hn : 47 ∉ f) : mm (quoteB d ++ [42]) (d ++ f) = true ∧ mm (quoteB d ++ quoteB f) (d ++ f) = true ∧ ((∃ x, d = x ++ [47]) → mm [42] (d ++ f) = false) := by
  have hst : parse false [42] = some [Tm.star] := rfl
  have hq : parse false (quoteB f) = some (lits f) := by
    have := parse_quoteB hf []
    rw [List.append_nil, parse_nil] at this
    rw [this]
    show some (lits f ++ []) = _
    rw [List.append_nil]
  refine ⟨?_, ?_, ?_⟩
  · have h : parse false (quoteB d ++ [42]) = some (lits d ++ [Tm.star]) := by rw [parse_quoteB hd, hst]; rfl
    rw [mm_of h, gm_lits_append, if_pos ⟨f, rfl⟩, List.drop_left, gm_star]
    cases hc : f.contains 47 with
    | false => rfl
    | true => exact absurd (List.contains_iff_mem.1 hc) hn
  · have h : parse false (quoteB d ++ quoteB f) = some (lits d ++ lits f) := by rw [parse_quoteB hd, hq]; rfl
    rw [mm_of h, gm_lits_append, if_pos ⟨f, rfl⟩, List.drop_left, gm_lits]
    simp
  · rintro ⟨x, rfl⟩
    rw [(law_star _).1]
    have : ((x ++ [47]) ++ f).contains 47 = true := List.contains_iff_mem.2 (by simp)
    rw [this]
    rfl

end Go.Proofs.YtgdkepjimhmdbaaDoor

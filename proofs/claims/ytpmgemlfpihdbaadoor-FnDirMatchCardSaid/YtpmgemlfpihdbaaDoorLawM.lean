/-
  Dir of a Clean path against patterns. Conditions: none beyond those of each theorem.
-/
import Derived.Test.YtpmgemlfpihdbaaDoorLate
import Derived.Test.YtpmgemlfpihdbaaDoorPathT
namespace Go.Proofs.YtpmgemlfpihdbaaDoor
open Go Go.Lib Go.Lib.Pa

theorem vslash (b : Bs) : ∀ (n : Nat) (a : Bs), a.length ≤ n → validD (a ++ 47 :: b) = true → validD a = true ∧ validD b = true
  | _, [], _, h => by
    rw [List.nil_append, validD_cons 47 b (by decide)] at h
    exact ⟨validD_nil, h⟩
  | 0, _ :: _, h, _ => by simp at h
  | n + 1, x :: a, hn, h => by
    have hne : x :: a ++ 47 :: b ≠ [] := by simp
    have hd : dec (x :: a ++ 47 :: b) = decodeL (x :: a ++ 47 :: b) := by unfold dec; rw [if_neg hne]
    rw [validD_step _ hne, ← hd] at h
    have hnb : ¬ badDec (x :: a ++ 47 :: b) := by
      intro hb
      unfold badDec at hb
      rw [if_pos hb] at h
      cases h
    have hnb' := hnb
    unfold badDec at hnb'
    rw [if_neg hnb'] at h
    have hle : (dec (x :: a ++ 47 :: b)).2 ≤ (x :: a).length := by
      rcases dec_bytes hne hnb with ⟨h1, _⟩ | ⟨_, h2⟩
      · rw [h1]; simp
      · cases Nat.lt_or_ge (x :: a).length (dec (x :: a ++ 47 :: b)).2 with
        | inl hlt =>
          have := h2 (x :: a).length hlt
          rw [List.getD_eq_getElem?_getD, List.getElem?_append_right (Nat.le_refl _), Nat.sub_self] at this
          exact absurd (show 128 ≤ (47 : UInt8).toNat from this) (by decide)
        | inr hge => exact hge
    have hge := dec_ge hne
    have ht := dec_take (x :: a ++ 47 :: b) (x :: a).length (by simp) (by simp)
    rw [List.take_left, if_pos hle] at ht
    rw [List.drop_append_of_le_length hle] at h
    obtain ⟨i1, i2⟩ := vslash b n ((x :: a).drop (dec (x :: a ++ 47 :: b)).2) (by rw [List.length_drop]; simp only [List.length_cons] at hn ⊢; omega) h
    refine ⟨?_, i2⟩
    have hd2 : dec (x :: a) = decodeL (x :: a) := by unfold dec; rw [if_neg (by simp)]
    rw [validD_step _ (by simp), ← hd2, ht, if_neg hnb']
    exact i1

theorem els_first : ∀ (a x : Bs), 47 ∉ a → els (a ++ 47 :: x) = a :: els x
  | [], x, _ => by
    show els (47 :: x) = _
    conv => lhs; unfold els
    rw [if_pos rfl]
  | c :: a, x, h => by
    have hc : c ≠ 47 := fun e => h (by simp [e])
    have ih := els_first a x (fun e => h (by simp [e]))
    show els (c :: (a ++ 47 :: x)) = _
    conv => lhs; unfold els
    rw [if_neg hc, ih]
theorem els_valid : ∀ (n : Nat) (l : Bs), l.length ≤ n → validD l = true → ∀ e ∈ els l, validD e = true
  | n, l, hn, hv => by
    by_cases h : (47 : UInt8) ∈ l
    · obtain ⟨a, x, rfl, ha⟩ := List.eq_append_cons_of_mem h
      obtain ⟨h1, h2⟩ := vslash x _ a (Nat.le_refl _) hv
      rw [els_first a x ha]
      intro e he
      rcases List.mem_cons.1 he with rfl | he
      · exact h1
      · cases n with
        | zero => simp at hn
        | succ n => exact els_valid n x (by simp at hn; omega) h2 e he
    · rw [els_one l h]
      intro e he
      rw [List.mem_singleton.1 he]
      exact hv
theorem step_valid (r : Bool) (st : List Bs) (e : Bs) (h : ∀ x ∈ st, validD x = true) (he : validD e = true) : ∀ x ∈ cleanStep r st e, validD x = true := by
  intro x hx
  unfold cleanStep at hx
  split at hx
  · exact h x hx
  · split at hx
    · split at hx
      · split at hx
        · rcases List.mem_cons.1 hx with rfl | hx
          · exact he
          · exact h x hx
        · exact h x (List.mem_cons_of_mem _ hx)
      · split at hx
        · cases hx
        · rw [List.mem_singleton.1 hx]; exact he
    · rcases List.mem_cons.1 hx with rfl | hx
      · exact he
      · exact h x hx
theorem fold_valid (r : Bool) : ∀ (es st : List Bs), (∀ e ∈ es, validD e = true) → (∀ x ∈ st, validD x = true) → ∀ x ∈ es.foldl (cleanStep r) st, validD x = true
  | [], _, _, h => h
  | e :: es, st, he, h => fold_valid r es _ (fun x hx => he x (by simp [hx])) (step_valid r st e h (he e (by simp)))
theorem J_valid : ∀ (A : List Bs), (∀ x ∈ A, validD x = true) → validD (J A) = true
  | [], _ => rfl
  | [y], h => by rw [Jo]; exact h y (by simp)
  | y :: z :: Y, h => by
    rw [Jc]
    exact valid_app (h y (by simp)) (valid_byte_cons 47 (by decide) (J_valid (z :: Y) fun x hx => h x (by simp only [List.mem_cons] at hx ⊢; exact .inr hx)))
theorem clean_valid {l : Bs} (h : validD l = true) : validD (clean l) = true := by
  by_cases h0 : l = []
  · subst h0; rfl
  · rw [clean_of l h0]
    have hk : ∀ x ∈ kept l, validD x = true := fold_valid _ _ _ (els_valid _ l (Nat.le_refl _) h) (by simp)
    have hj : validD (J (kept l).reverse) = true := J_valid _ fun x hx => hk x (List.mem_reverse.1 hx)
    unfold cleanOf
    split
    · exact valid_byte_cons 47 (by decide) hj
    · split
      · rfl
      · exact hj
theorem last_cut {x y f g : Bs} (hf : 47 ∉ f) (hg : 47 ∉ g) (h : x ++ 47 :: f = y ++ 47 :: g) : x = y ∧ f = g := by
  have h1 := split_at x f hf
  have h2 := split_at y g hg
  rw [h, h2] at h1
  injection h1 with e1 e2
  exact ⟨(List.append_inj_left' e1 rfl).symm, e2.symm⟩
/-- The front of a Clean path is Clean. -/
theorem clean_front {l x f : Bs} (h : clean l = x ++ 47 :: f) (hf : 47 ∉ f) (hx : x ≠ []) : clean x = x ∧ x ≠ [47] := by
  have hn0 : clean l ≠ [] := clean_ne l
  have e := clean_of (clean l) hn0
  rw [clean_idem] at e
  have hN := kept_normal (clean l)
  generalize ro (clean l) = r at e hN
  cases hk : kept (clean l) with
  | nil =>
    rw [hk] at e
    rw [h] at e
    exfalso
    cases r with
    | true =>
      have e' : x ++ 47 :: f = [47] := e
      cases x with
      | nil => exact hx rfl
      | cons a x => simp at e'
    | false =>
      have e' : x ++ 47 :: f = [46] := e
      cases x with
      | nil => exact hx rfl
      | cons a x => simp at e'
  | cons y t =>
    rw [hk] at e hN
    rw [cleanOf_cons hN, h] at e
    have hy := hN.1.2.2
    by_cases ht : t = []
    · subst ht
      exfalso
      cases r with
      | true =>
        have e' : x ++ 47 :: f = [] ++ 47 :: y := e
        exact hx (last_cut hf hy e').1
      | false =>
        have e' : x ++ 47 :: f = y := e
        exact hy (by rw [← e']; simp)
    · have e' : x ++ 47 :: f = cleanOf r t ++ 47 :: y := by
        rw [e]
        unfold front
        rw [if_neg ht, List.append_assoc]
        rfl
      have hxt := (last_cut hf hy e').1
      obtain ⟨c1, c2, c3⟩ := cleanOf_els hN.2.1
      have hkx : kept (cleanOf r t) = t := by unfold kept; rw [c2]; exact c3
      refine ⟨?_, ?_⟩
      · rw [hxt, clean_of _ c1, c2, hkx]
      · rw [hxt]
        obtain ⟨j1, j2⟩ := J_ne hN.2.1 ht
        unfold cleanOf
        intro h7
        split at h7
        · injection h7 with _ h7
          exact j1 h7
        · first | (rw [if_neg j1] at h7) | skip
          rw [h7] at j2
          exact absurd j2 (by decide)
theorem mm_quote_slash_star {d f : Bs} (hd : validD d = true) (hf : 47 ∉ f) : mm (quoteB d ++ [47] ++ [42]) (d ++ 47 :: f) = true := by
  have hp : parse false (quoteB d ++ [47] ++ [42]) = some (lits d ++ (lits [47] ++ [Tm.star])) := by
    rw [List.append_assoc, parse_quoteB hd]
    rfl
  rw [mm_of hp, gm_lits_append, if_pos (by simp), List.drop_left, gm_lits_append, if_pos (by simp)]
  show gm [Tm.star] f = true
  rw [gm_star]
  simpa using hf
/-- FnDirMatch. -/
theorem law_dirMatch {l : Bs} (hv : validD l = true) : ((clean l).contains 47 = false → mm [42] (clean l) = true ∧ dir (clean l) = [46]) ∧
    ((clean l).contains 47 = true → (dir (clean l) = [47] → mm [47, 42] (clean l) = true) ∧ (dir (clean l) ≠ [47] → mm (quoteB (dir (clean l)) ++ [47] ++ [42]) (clean l) = true)) := by
  refine ⟨fun h => ?_, fun h => ?_⟩
  · have h47 : 47 ∉ clean l := by simpa using h
    refine ⟨?_, ?_⟩
    · rw [(law_star _).1, h]; rfl
    · unfold dir
      rw [split_none _ h47]
      rfl
  · rcases split_cases (clean l) with ⟨h1, _⟩ | ⟨x, f, e, hf, _⟩
    · rw [List.contains_iff_mem] at h
      exact absurd h h1
    · have hcv := clean_valid hv
      rw [e] at hcv
      obtain ⟨vx, _⟩ := vslash f _ x (Nat.le_refl _) hcv
      have hdir : dir (clean l) = clean (x ++ [47]) := by rw [e]; exact dir_slash x f hf
      by_cases hx : x = []
      · subst hx
        have hd : dir (clean l) = [47] := hdir
        refine ⟨fun _ => ?_, fun hn => absurd hd hn⟩
        rw [e]
        exact mm_quote_slash_star (d := []) rfl hf
      · obtain ⟨c1, c2⟩ := clean_front e hf hx
        have hd : dir (clean l) = x := by rw [hdir, clean_slash_end x hx, c1]
        rw [hd]
        refine ⟨fun h7 => absurd h7 c2, fun _ => ?_⟩
        rw [e]
        exact mm_quote_slash_star vx hf

end Go.Proofs.YtpmgemlfpihdbaaDoor

/-
  Plain laws on Clean, Join, Split, Dir, Base as the shelf's Lean functions have them: no program. Conditions: none beyond those of each theorem.
-/
import Derived.Lib.CleanSame
import Derived.Lib.JoinSame2
import Derived.Lib.CleanLen
namespace Go.Proofs.YtlekeaganaliiaaDoor
open Go Go.Lib.Pa

abbrev J (A : List (List UInt8)) : List UInt8 := ([47] : List UInt8).intercalate A
theorem Jc (y z : List UInt8) (Y : List (List UInt8)) : J (y :: z :: Y) = y ++ 47 :: J (z :: Y) := J_cons y z Y
theorem Jo (y : List UInt8) : J [y] = y := J_one y
def ro (l : List UInt8) : Bool := l.head? == some 47
def kept (l : List UInt8) : List (List UInt8) := (els l).foldl (cleanStep (ro l)) []

def Elem (x : List UInt8) : Prop := x ≠ [] ∧ x ≠ [46] ∧ 47 ∉ x
def Normal (r : Bool) : List (List UInt8) → Prop
  | [] => True
  | x :: t => Elem x ∧ Normal r t ∧ (x = [46, 46] → r = false ∧ ∀ y ∈ t, y = [46, 46])

theorem els_no47 : ∀ (l : List UInt8), ∀ e ∈ els l, 47 ∉ e
  | [] => by simp [els]
  | c :: t => by
    intro e he
    unfold els at he
    split at he
    · rcases List.mem_cons.1 he with rfl | h
      · simp
      · exact els_no47 t e h
    · rename_i hc
      obtain ⟨x, r, hx⟩ := els_ne t
      rw [hx] at he
      have ih := els_no47 t
      rw [hx] at ih
      rcases List.mem_cons.1 he with rfl | h
      · intro hm
        rcases List.mem_cons.1 hm with h | h
        · exact hc h.symm
        · exact ih x (by simp) h
      · exact ih e (by simp [h])

theorem els_one : ∀ (x : List UInt8), 47 ∉ x → els x = [x]
  | [], _ => rfl
  | c :: t, h => by
    have hc : c ≠ 47 := fun e => h (by simp [e])
    have ih := els_one t (fun e => h (by simp [e]))
    unfold els
    rw [if_neg hc, ih]

theorem normal_step (r : Bool) (st : List (List UInt8)) (e : List UInt8) (h : Normal r st) (he : 47 ∉ e) : Normal r (cleanStep r st e) := by
  unfold cleanStep
  split
  · exact h
  · rename_i h0
    have h0' : e ≠ [] ∧ e ≠ [46] := ⟨fun h => h0 (.inl h), fun h => h0 (.inr h)⟩
    split
    · rename_i hdd
      cases st with
      | nil =>
        simp only
        split
        · trivial
        · rename_i hr
          exact ⟨⟨h0'.1, h0'.2, he⟩, trivial, fun _ => ⟨by simpa using hr, by simp⟩⟩
      | cons x t =>
        simp only
        split
        · rename_i hx
          obtain ⟨hx1, hx2, hx3⟩ := h
          exact ⟨⟨h0'.1, h0'.2, he⟩, ⟨hx1, hx2, hx3⟩, fun _ => ⟨(hx3 hx).1, fun y hy => by
            rcases List.mem_cons.1 hy with rfl | hy
            · exact hx
            · exact (hx3 hx).2 y hy⟩⟩
        · exact h.2.1
    · rename_i hdd
      exact ⟨⟨h0'.1, h0'.2, he⟩, h, fun h => absurd h hdd⟩

theorem normal_fold (r : Bool) : ∀ (l st : List (List UInt8)), Normal r st → (∀ e ∈ l, 47 ∉ e) → Normal r (l.foldl (cleanStep r) st)
  | [], st, h, _ => h
  | e :: l, st, h, hl => normal_fold r l _ (normal_step r st e h (hl e (by simp))) (fun x hx => hl x (by simp [hx]))

theorem kept_normal (l : List UInt8) : Normal (ro l) (kept l) := normal_fold _ _ _ trivial (els_no47 l)

theorem step_normal {r : Bool} {x : List UInt8} {t : List (List UInt8)} (h : Normal r (x :: t)) : cleanStep r t x = x :: t := by
  obtain ⟨⟨h1, h2, h3⟩, h4, h5⟩ := h
  by_cases hx : x = [46, 46]
  · obtain ⟨hr, ht⟩ := h5 hx
    subst hr
    subst hx
    cases t with
    | nil => rfl
    | cons y t => rw [ht y (by simp)]; simp [cleanStep]
  · simp [cleanStep, h1, h2, hx]

theorem fold_normal (r : Bool) : ∀ (st : List (List UInt8)), Normal r st → st.reverse.foldl (cleanStep r) [] = st
  | [], _ => rfl
  | x :: t, h => by
    obtain ⟨⟨h1, h2, h3⟩, h4, h5⟩ := h
    rw [List.reverse_cons, List.foldl_append, fold_normal r t h4]
    show cleanStep r t x = x :: t
    by_cases hx : x = [46, 46]
    · obtain ⟨hr, ht⟩ := h5 hx
      subst hr
      subst hx
      cases t with
      | nil => rfl
      | cons y t => rw [ht y (by simp)]; simp [cleanStep]
    · simp [cleanStep, h1, h2, hx]

theorem Normal.elem {r : Bool} : ∀ {st : List (List UInt8)}, Normal r st → ∀ x ∈ st, Elem x
  | [], _, x, hx => by cases hx
  | y :: t, h, x, hx => by
    rcases List.mem_cons.1 hx with rfl | hx
    · exact h.1
    · exact Normal.elem h.2.1 x hx

theorem els_J_plain : ∀ (A : List (List UInt8)), A ≠ [] → (∀ x ∈ A, 47 ∉ x) → els (J A) = A
  | [], h, _ => absurd rfl h
  | y :: Y, _, h => by
    rw [els_J]
    have : ∀ (B : List (List UInt8)), (∀ x ∈ B, 47 ∉ x) → B.flatMap els = B := by
      intro B hB
      induction B with
      | nil => rfl
      | cons b B ih => rw [List.flatMap_cons, els_one b (hB b (by simp)), ih (fun x hx => hB x (by simp [hx]))]; rfl
    exact this _ h

/-- What Clean writes of the elements kept. -/
def cleanOf (r : Bool) (st : List (List UInt8)) : List UInt8 := if r then 47 :: J st.reverse else if J st.reverse = [] then [46] else J st.reverse

theorem clean_of (l : List UInt8) (h : l ≠ []) : clean l = cleanOf (ro l) (kept l) := by
  rw [clean_eq_cleanEls]
  unfold cleanOf kept
  cases hr : ro l with
  | true => rw [cleanEls_abs l h hr, if_pos rfl]
  | false => rw [cleanEls_rel l h hr]; rfl

theorem J_ne {r : Bool} {st : List (List UInt8)} (h : Normal r st) (hst : st ≠ []) : J st.reverse ≠ [] ∧ ro (J st.reverse) = false := by
  have hrev : st.reverse ≠ [] := by simpa using hst
  obtain ⟨y, Y, hy⟩ : ∃ y Y, st.reverse = y :: Y := by
    cases hs : st.reverse with
    | nil => exact absurd hs hrev
    | cons y Y => exact ⟨y, Y, rfl⟩
  have hel : Elem y := h.elem y (by rw [← List.mem_reverse, hy]; simp)
  have := J_head y Y hel.1
  rw [hy]
  refine ⟨this.2, ?_⟩
  unfold ro
  rw [this.1]
  cases y with
  | nil => exact absurd rfl hel.1
  | cons c t =>
    have : c ≠ 47 := fun e => hel.2.2 (by simp [e])
    simpa using this

/-- Clean's own elements: those kept; and it is rooted as the path is. -/
theorem cleanOf_els {r : Bool} {st : List (List UInt8)} (h : Normal r st) : cleanOf r st ≠ [] ∧ ro (cleanOf r st) = r ∧ (els (cleanOf r st)).foldl (cleanStep r) [] = st := by
  have hno : ∀ x ∈ st.reverse, 47 ∉ x := fun x hx => (h.elem x (by simpa using hx)).2.2
  cases r with
  | true =>
    unfold cleanOf
    rw [if_pos rfl]
    refine ⟨by simp, by simp [ro], ?_⟩
    rw [els_slash, List.foldl_cons, step_nil]
    by_cases hst : st = []
    · subst hst; rfl
    · rw [els_J_plain _ (by simpa using hst) hno, fold_normal _ _ h]
  | false =>
    unfold cleanOf
    rw [if_neg (by simp)]
    by_cases hst : st = []
    · subst hst
      exact ⟨by decide, by decide, by decide⟩
    · have := J_ne h hst
      rw [if_neg this.1]
      exact ⟨this.1, this.2, by rw [els_J_plain _ (by simpa using hst) hno, fold_normal _ _ h]⟩

theorem clean_ne (l : List UInt8) : clean l ≠ [] := by
  by_cases h : l = []
  · subst h; decide
  · rw [clean_of l h]; exact (cleanOf_els (kept_normal l)).1
theorem clean_ro (l : List UInt8) : ro (clean l) = ro l := by
  by_cases h : l = []
  · subst h; decide
  · rw [clean_of l h]; exact (cleanOf_els (kept_normal l)).2.1
theorem clean_kept (l : List UInt8) (h : l ≠ []) : kept (clean l) = kept l := by
  unfold kept
  rw [clean_ro l, clean_of l h]
  exact (cleanOf_els (kept_normal l)).2.2

theorem clean_idem (l : List UInt8) : clean (clean l) = clean l := by
  by_cases h : l = []
  · subst h; decide
  · rw [clean_of (clean l) (clean_ne l), clean_kept l h, clean_ro l, ← clean_of l h]

theorem ro_app (a b : List UInt8) (h : a ≠ []) : ro (a ++ b) = ro a := by
  cases a with
  | nil => exact absurd rfl h
  | cons c t => simp [ro]

theorem kept_app (a b : List UInt8) (h : a ≠ []) : kept (a ++ 47 :: b) = (els b).foldl (cleanStep (ro a)) (kept a) := by
  unfold kept
  rw [ro_app a _ h, els_app, List.foldl_append]

theorem clean_app (a b : List UInt8) (h : a ≠ []) : clean (a ++ 47 :: b) = cleanOf (ro a) ((els b).foldl (cleanStep (ro a)) (kept a)) := by
  rw [clean_of _ (by simp), kept_app a b h, ro_app a _ h]

theorem clean_clean_app (a b : List UInt8) (h : a ≠ []) : clean (clean a ++ 47 :: b) = clean (a ++ 47 :: b) := by
  rw [clean_app _ b (clean_ne a), clean_app a b h, clean_ro, clean_kept a h]

/-- A slash more between two parts changes nothing. -/
theorem clean_slashes (a b : List UInt8) (h : a ≠ []) : clean ((a ++ [47]) ++ 47 :: b) = clean (a ++ 47 :: b) := by
  rw [clean_app _ b (by simp), clean_app a b h, ro_app a _ h, kept_app a [] h]
  rfl

theorem clean_slash_end (a : List UInt8) (h : a ≠ []) : clean (a ++ [47]) = clean a := by
  rw [clean_app a [] h, clean_of a h]
  rfl

/-! ### Join -/

theorem join_nil_iff (xs : List (List UInt8)) : join xs = [] ↔ ∀ x ∈ xs, x = [] := by
  unfold join
  split
  · rename_i h
    simp only [true_iff]
    intro x hx
    have := List.filter_eq_nil_iff.1 h x hx
    simpa using this
  · rename_i h
    constructor
    · intro e; exact absurd e (clean_ne _)
    · intro hx
      exact absurd (List.filter_eq_nil_iff.2 (fun x h => by simp [hx x h])) h

theorem join_of_filter (xs ys : List (List UInt8)) (h : xs.filter (· ≠ []) = ys.filter (· ≠ [])) : join xs = join ys := by
  unfold join
  rw [h]

theorem J_app : ∀ (A B : List (List UInt8)), A ≠ [] → B ≠ [] → J (A ++ B) = J A ++ 47 :: J B
  | [], _, h, _ => absurd rfl h
  | [a], b :: B, _, _ => by rw [List.singleton_append, Jc, Jo]
  | [_], [], _, h => absurd rfl h
  | a :: a' :: A, B, _, hB => by
    rw [List.cons_append, List.cons_append, Jc, ← List.cons_append, J_app (a' :: A) B (by simp) hB, Jc, List.append_assoc]
    rfl

theorem J_filter_ne (xs : List (List UInt8)) (h : xs.filter (· ≠ []) ≠ []) : J (xs.filter (· ≠ [])) ≠ [] := by
  cases hx : xs.filter (· ≠ []) with
  | nil => exact absurd hx h
  | cons y Y =>
    have : y ≠ [] := by
      have : y ∈ xs.filter (· ≠ []) := by rw [hx]; simp
      simpa using (List.mem_filter.1 this).2
    exact (J_head y Y this).2

theorem join_join (xs ys : List (List UInt8)) : join (join xs :: ys) = join (xs ++ ys) := by
  by_cases h : xs.filter (· ≠ []) = []
  · have e : join xs = [] := by unfold join; rw [if_pos h]
    rw [e]
    apply join_of_filter
    rw [List.filter_append, h]
    simp
  · have hne := J_filter_ne xs h
    have e : join xs = clean (J (xs.filter (· ≠ []))) := by unfold join; rw [if_neg h]
    have e2 : ∀ zs : List (List UInt8), join (clean (J (xs.filter (· ≠ []))) :: zs) = clean (J (clean (J (xs.filter (· ≠ []))) :: zs.filter (· ≠ []))) := by
      intro zs
      have hf : (clean (J (xs.filter (· ≠ []))) :: zs).filter (· ≠ []) = clean (J (xs.filter (· ≠ []))) :: zs.filter (· ≠ []) := List.filter_cons_of_pos (by simpa using clean_ne _)
      unfold join
      rw [hf, if_neg (by simp)]
    have e3 : join (xs ++ ys) = clean (J (xs.filter (· ≠ []) ++ ys.filter (· ≠ []))) := by
      unfold join
      rw [List.filter_append, if_neg (fun e => h (List.append_eq_nil_iff.1 e).1)]
    rw [e, e2, e3]
    generalize hA : xs.filter (· ≠ []) = A at *
    generalize ys.filter (· ≠ []) = B at *
    cases B with
    | nil => rw [List.append_nil, Jo, clean_idem]
    | cons y Y => rw [J_app _ _ h (by simp), Jc, clean_clean_app _ _ hne]

/-! ### Split, Dir, Base -/

theorem split_cat (l : List UInt8) : (split l).1 ++ (split l).2 = l := by unfold split; exact List.take_append_drop _ _

theorem split_none (l : List UInt8) (h : 47 ∉ l) : split l = ([], l) := by
  unfold split
  have : lastIndexByte l 47 = -1 := by
    rcases lastIndexByte_spec l 47 with ⟨h1, _⟩ | ⟨i, _, hi, _⟩
    · exact h1
    · exact absurd (List.mem_of_getElem? hi) h
  rw [this]
  rfl

theorem split_at (x f : List UInt8) (h : 47 ∉ f) : split (x ++ 47 :: f) = (x ++ [47], f) := by
  have e : lastIndexByte (x ++ 47 :: f) 47 = x.length := by
    apply lastIdx_eq_of
    · simp
    · simp
    · intro j hj _
      rw [List.getElem?_append_right (by omega)]
      obtain ⟨k, hk⟩ : ∃ k, j - x.length = k + 1 := ⟨j - x.length - 1, by omega⟩
      rw [hk, List.getElem?_cons_succ]
      intro hh
      exact h (List.mem_of_getElem? hh)
  unfold split
  rw [e, show ((x.length : Int) + 1).toNat = x.length + 1 by omega]
  rw [show x ++ 47 :: f = (x ++ [47]) ++ f by simp]
  rw [List.take_left' (by simp), List.drop_left' (by simp)]

theorem split_cases (l : List UInt8) : (47 ∉ l ∧ split l = ([], l)) ∨ ∃ x f, l = x ++ 47 :: f ∧ 47 ∉ f ∧ split l = (x ++ [47], f) := by
  by_cases h : 47 ∈ l
  · right
    have hr : 47 ∈ l.reverse := by simpa using h
    obtain ⟨a, b, e, ha⟩ := List.eq_append_cons_of_mem hr
    have hl : l = b.reverse ++ 47 :: a.reverse := by
      have := congrArg List.reverse e
      simpa using this
    have hf : 47 ∉ a.reverse := by simpa using ha
    refine ⟨b.reverse, a.reverse, hl, hf, ?_⟩
    rw [hl]
    exact split_at _ _ hf
  · exact .inl ⟨h, split_none l h⟩

theorem split_no47 (l : List UInt8) : 47 ∉ (split l).2 := by
  rcases split_cases l with ⟨h, e⟩ | ⟨x, f, _, h, e⟩ <;> rw [e] <;> exact h

theorem split_dir_end (l : List UInt8) : (split l).1 = [] ∨ ∃ x, (split l).1 = x ++ [47] := by
  rcases split_cases l with ⟨h, e⟩ | ⟨x, f, _, h, e⟩ <;> rw [e]
  · exact .inl rfl
  · exact .inr ⟨x, rfl⟩

theorem join_two (a b : List UInt8) (ha : a ≠ []) (hb : b ≠ []) : join [a, b] = clean (a ++ 47 :: b) := by
  have e : [a, b].filter (· ≠ []) = [a, b] := by simp [ha, hb]
  unfold join
  rw [e, if_neg (by simp)]
  show clean (J [a, b]) = _
  rw [Jc, Jo]

theorem join_one (a : List UInt8) (ha : a ≠ []) : join [a] = clean a := by
  have e : [a].filter (· ≠ []) = [a] := by simp [ha]
  unfold join
  rw [e, if_neg (by simp)]
  show clean (J [a]) = _
  rw [Jo]

theorem split_join (l : List UInt8) (h : l ≠ []) : join [(split l).1, (split l).2] = clean l := by
  rcases split_cases l with ⟨hn, e⟩ | ⟨x, f, hl, hf, e⟩
  · rw [e]
    show join [[], l] = clean l
    rw [join_of_filter [[], l] [l] (by simp), join_one l h]
  · rw [e]
    show join [x ++ [47], f] = clean l
    by_cases hf0 : f = []
    · subst hf0
      rw [join_of_filter [x ++ [47], []] [x ++ [47]] (by simp), join_one _ (by simp), hl]
    · rw [join_two _ _ (by simp) hf0, hl]
      by_cases hx : x = []
      · subst hx
        show clean ([47] ++ 47 :: f) = clean ([] ++ 47 :: f)
        rw [clean_app [47] f (by simp), clean_of ([] ++ 47 :: f) (by simp)]
        have e1 : ro ([] ++ 47 :: f) = true := rfl
        have e2 : kept ([] ++ 47 :: f) = (els f).foldl (cleanStep true) [] := by
          unfold kept
          rw [e1, List.nil_append, els_slash, List.foldl_cons, step_nil]
        rw [e1, e2]
        rfl
      · rw [clean_slashes x f hx]

theorem J_last (x : List UInt8) (t : List (List UInt8)) : J (x :: t).reverse = (if t = [] then [] else J t.reverse ++ [47]) ++ x := by
  rw [List.reverse_cons]
  split
  · rename_i h; subst h; exact Jo x
  · rename_i h
    rw [J_app _ _ (by simpa using h) (by simp), Jo]
    simp

/-- What stands before the last element. -/
def front (r : Bool) (t : List (List UInt8)) : List UInt8 := if t = [] then (if r then [47] else []) else cleanOf r t ++ [47]

theorem cleanOf_cons {r : Bool} {x : List UInt8} {t : List (List UInt8)} (h : Normal r (x :: t)) : cleanOf r (x :: t) = front r t ++ x := by
  have hJ := J_ne h (by simp)
  have hx := h.1.1
  unfold front
  cases r with
  | true =>
    show 47 :: J (x :: t).reverse = _
    rw [J_last]
    split
    · rfl
    · rfl
  | false =>
    show (if J (x :: t).reverse = [] then [46] else J (x :: t).reverse) = _
    rw [if_neg hJ.1, J_last]
    split
    · rfl
    · rename_i ht
      have := J_ne h.2.1 ht
      show J t.reverse ++ [47] ++ x = (if J t.reverse = [] then [46] else J t.reverse) ++ [47] ++ x
      rw [if_neg this.1]

theorem clean_end (l : List UInt8) (h : (clean l).getLast? = some 47) : clean l = [47] := by
  by_cases hl : l = []
  · subst hl; revert h; decide
  · rw [clean_of l hl] at h ⊢
    have hn := kept_normal l
    generalize kept l = st at *
    generalize ro l = r at *
    cases st with
    | nil => cases r <;> revert h <;> decide
    | cons x t =>
      rw [cleanOf_cons hn] at h
      have hx := hn.1
      rw [List.getLast?_append] at h
      cases hg : x.getLast? with
      | none => exact absurd (List.getLast?_eq_none_iff.1 hg) hx.1
      | some c =>
        rw [hg] at h
        simp at h
        subst h
        exact absurd (List.mem_of_getLast? hg) hx.2.2

theorem last_of_suffix {l : List UInt8} (h : Lib.hasSuffix l [47] = true) : l.getLast? = some 47 := by
  unfold Lib.hasSuffix at h
  obtain ⟨t, rfl⟩ := List.isSuffixOf_iff_suffix.1 h
  simp
theorem suffix_of_last {l : List UInt8} (h : l.getLast? = some 47) : Lib.hasSuffix l [47] = true := by
  unfold Lib.hasSuffix
  obtain ⟨t, rfl⟩ := List.getLast?_eq_some_iff.1 h
  exact List.isSuffixOf_iff_suffix.2 ⟨t, rfl⟩

theorem base_length (l : List UInt8) : (base l).length ≤ l.length + 1 := by
  unfold base
  split
  · simp
  · split
    · simp
    · have h1 : (split (trimSlashes l)).2.length ≤ (trimSlashes l).length := by
        have := congrArg List.length (split_cat (trimSlashes l))
        rw [List.length_append] at this
        omega
      have h2 : (trimSlashes l).length ≤ l.length := by
        unfold trimSlashes
        rw [List.length_reverse]
        have := (List.dropWhile_sublist (· == (47 : UInt8)) (l := l.reverse)).length_le
        rw [List.length_reverse] at this
        exact this
      omega

theorem trim_not (l : List UInt8) (h : l.getLast? ≠ some 47) : trimSlashes l = l := by
  unfold trimSlashes
  cases hr : l.reverse with
  | nil => simpa using hr.symm
  | cons c t =>
    have hc : c ≠ 47 := by
      intro e
      apply h
      rw [List.getLast?_eq_head?_reverse, hr, e]
      rfl
    rw [List.dropWhile_cons_of_neg (by simpa using hc), ← hr, List.reverse_reverse]

theorem trim_slash (l : List UInt8) : trimSlashes (l ++ [47]) = trimSlashes l := by
  unfold trimSlashes
  simp

theorem base_of (l : List UInt8) (hl : l ≠ []) (h : l.getLast? ≠ some 47) : base l = (split l).2 ∧ (split l).2 ≠ [] := by
  have hne : (split l).2 ≠ [] := by
    rcases split_cases l with ⟨_, e⟩ | ⟨x, f, hx, _, e⟩ <;> rw [e]
    · exact hl
    · intro hf
      replace hf : f = [] := hf
      subst hf
      apply h
      rw [hx]
      simp
  refine ⟨?_, hne⟩
  unfold base
  rw [if_neg hl, trim_not l h, if_neg hne]

theorem base_slashes (l : List UInt8) (hl : l ≠ []) (h : l.getLast? ≠ some 47) : base (l ++ [47, 47]) = (split l).2 := by
  have hne := (base_of l hl h).2
  unfold base
  have e : trimSlashes (l ++ [47, 47]) = l := by
    rw [show l ++ [47, 47] = (l ++ [47]) ++ [47] by simp, trim_slash, trim_slash, trim_not l h]
  rw [if_neg (by simp), e, if_neg hne]

theorem isAbs_ro (l : List UInt8) : isAbs l = ro l := rfl

theorem dir_slash (l f : List UInt8) (hf : 47 ∉ f) : dir (l ++ 47 :: f) = clean (l ++ [47]) := by
  unfold dir
  rw [split_at l f hf]

theorem join_parts {r : Bool} {t : List (List UInt8)} {x D : List UInt8} (h : Normal r (x :: t)) (hD : D ≠ []) (hr : ro D = r) (hk : kept D = t) : join [D, x] = cleanOf r (x :: t) := by
  rw [join_two D x hD h.1.1, clean_app D x hD, hr, hk, els_one x h.1.2.2]
  show cleanOf r (cleanStep r t x) = _
  rw [step_normal h]

theorem clean_parts (l : List UInt8) : join [dir (clean l), base (clean l)] = clean l := by
  by_cases hl : l = []
  · subst hl; decide
  · rw [clean_of l hl]
    have hn := kept_normal l
    generalize kept l = st at *
    generalize ro l = r at *
    cases st with
    | nil => cases r <;> decide
    | cons x t =>
      have hx := hn.1
      have hlast : (cleanOf r (x :: t)).getLast? ≠ some 47 := by
        rw [cleanOf_cons hn, List.getLast?_append]
        cases hg : x.getLast? with
        | none => exact absurd (List.getLast?_eq_none_iff.1 hg) hx.1
        | some c => 
          intro e
          simp at e
          subst e
          exact hx.2.2 (List.mem_of_getLast? hg)
      have hsp : split (cleanOf r (x :: t)) = (front r t, x) := by
        rw [cleanOf_cons hn]
        unfold front
        split
        · cases r with
          | true => exact split_at [] x hx.2.2
          | false => exact split_none x hx.2.2
        · rw [List.append_assoc]
          exact split_at _ x hx.2.2
      have hb : base (cleanOf r (x :: t)) = x := by
        rw [(base_of _ (cleanOf_els hn).1 hlast).1, hsp]
      rw [hb]
      unfold dir
      rw [hsp]
      show join [clean (front r t), x] = _
      unfold front
      split
      · rename_i ht
        subst ht
        cases r with
        | true => exact join_parts hn (by decide) (by decide) (by decide)
        | false => exact join_parts hn (by decide) (by decide) (by decide)
      · rename_i ht
        have h3 := cleanOf_els hn.2.1
        have hc : clean (cleanOf r t ++ [47]) = cleanOf r t := by
          rw [clean_slash_end _ h3.1, clean_of _ h3.1]
          unfold kept
          rw [h3.2.1, h3.2.2]
        rw [hc]
        refine join_parts hn h3.1 h3.2.1 ?_
        unfold kept
        rw [h3.2.1, h3.2.2]

end Go.Proofs.YtlekeaganaliiaaDoor

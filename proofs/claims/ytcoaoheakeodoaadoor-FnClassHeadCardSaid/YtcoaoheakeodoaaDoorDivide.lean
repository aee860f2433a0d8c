/-
  The greedy search finds a division; at decided pairs it finds one if there is one. Conditions: none beyond those of each theorem.
-/
import Derived.Test.YtcoaoheakeodoaaDoorGreedy
namespace Go.Proofs.YtcoaoheakeodoaaDoor
open Go Go.Lib

/-- The divisions, over chunks. -/
def mtc : List (Bool × List Tm) → List Nat → Prop
  | [], s => s = []
  | (star, c) :: cs, s => ∃ pre s' t, s = pre ++ s' ∧ (star = false → pre = []) ∧ 47 ∉ pre ∧ stepsR c (some s') = some t ∧ mtc cs t

theorem fitStar_iff (P : List Nat → Bool) : ∀ (s : List Nat), fitStar P s = true ↔ ∃ pre s', s = pre ++ s' ∧ 47 ∉ pre ∧ P s' = true
  | [] => by
    constructor
    · intro h; exact ⟨[], [], rfl, by simp, h⟩
    · rintro ⟨pre, s', e, _, h⟩
      have : s' = [] := by cases pre <;> simp_all
      subst this
      exact h
  | c :: s => by
    have ih := fitStar_iff P s
    unfold fitStar
    rw [Bool.or_eq_true, Bool.and_eq_true, ih, decide_eq_true_eq]
    constructor
    · rintro (h | ⟨h1, pre, s', e, h2, h3⟩)
      · exact ⟨[], c :: s, rfl, by simp, h⟩
      · exact ⟨c :: pre, s', by rw [e]; rfl, by simp [h2, Ne.symm h1], h3⟩
    · rintro ⟨pre, s', e, h2, h3⟩
      cases pre with
      | nil => left; rw [e]; exact h3
      | cons d pre =>
        injection e with e1 e2
        subst e1
        right
        simp only [List.mem_cons, not_or] at h2
        exact ⟨fun x => h2.1 x.symm, pre, s', e2, h2.2, h3⟩

theorem mtc_skip {c : List Tm} {cs : List (Bool × List Tm)} {pre s : List Nat} (h : mtc ((true, c) :: cs) s) (hp : 47 ∉ pre) : mtc ((true, c) :: cs) (pre ++ s) := by
  obtain ⟨q, s', t, e, _, h2, h3, h4⟩ := h
  exact ⟨pre ++ q, s', t, by rw [e]; simp, (fun x => by cases x), by simp [hp, h2], h3, h4⟩

theorem tsplit_ne {t : Tm} (ts : List Tm) (h0 : t.kind ≠ 0) : tsplit (t :: ts) = match tsplit ts with
      | (false, c) :: cs => (false, t :: c) :: cs
      | (true, c) :: cs => (false, [t]) :: (true, c) :: cs
      | [] => [(false, [t])] := by
  conv => lhs; unfold tsplit
  rw [if_neg h0]
  rfl
theorem mtr_main (ts : List Tm) (t : Tm) (s : List Nat) (M : List Nat → Prop) (hM : ∀ r, mtr ts r = true ↔ M r) : (fitOne t (mtr ts) s = true ↔ ∃ x r, s = x :: r ∧ adm t x = true ∧ M r) := by
  cases s with
  | nil => simp [fitOne]
  | cons x r =>
    simp only [fitOne, Bool.and_eq_true, hM]
    constructor
    · rintro ⟨h1, h2⟩; exact ⟨x, r, rfl, h1, h2⟩
    · rintro ⟨x', r', e, h1, h2⟩
      injection e with e1 e2
      subst e1
      subst e2
      exact ⟨h1, h2⟩

theorem mtr_mtc : ∀ (ts : List Tm) (s : List Nat), mtr ts s = true ↔ mtc (tsplit ts) s
  | [], s => by
    unfold mtr
    show _ ↔ s = []
    cases s <;> simp
  | t :: ts, s => by
    have ih := mtr_mtc ts
    unfold mtr
    by_cases h0 : t.kind = 0
    · rw [if_pos h0, fitStar_iff]
      unfold tsplit
      rw [if_pos h0]
      cases hs : tsplit ts with
      | nil =>
        rw [hs] at ih
        constructor
        · rintro ⟨pre, s', e, h1, h2⟩
          have : s' = [] := (ih s').1 h2
          exact ⟨pre, s', s', e, (fun x => by cases x), h1, rfl, this⟩
        · rintro ⟨pre, s', t', e, _, h1, h2, h3⟩
          injection h2 with h2
          subst h2
          exact ⟨pre, s', e, h1, (ih s').2 h3⟩
      | cons z cs =>
        rw [hs] at ih
        obtain ⟨b, c⟩ := z
        cases b with
        | false =>
          constructor
          · rintro ⟨pre, s', e, h1, h2⟩
            obtain ⟨q, s2, t2, e2, h4, h5, h6, h7⟩ := (ih s').1 h2
            have : q = [] := h4 rfl
            subst this
            exact ⟨pre, s2, t2, by rw [e, e2]; simp, (fun x => by cases x), h1, h6, h7⟩
          · rintro ⟨pre, s', t', e, _, h1, h2, h3⟩
            exact ⟨pre, s', e, h1, (ih s').2 ⟨[], s', t', rfl, fun _ => rfl, by simp, h2, h3⟩⟩
        | true =>
          constructor
          · rintro ⟨pre, s', e, h1, h2⟩
            rw [e]
            exact mtc_skip ((ih s').1 h2) h1
          · intro h
            exact ⟨[], s, rfl, by simp, (ih s).2 h⟩
    · rw [if_neg h0]
      have step : ∀ (c : List Tm) (cs : List (Bool × List Tm)), mtc ((false, t :: c) :: cs) s ↔ ∃ x r, s = x :: r ∧ adm t x = true ∧ mtc ((false, c) :: cs) r := by
        intro c cs
        constructor
        · rintro ⟨pre, s', t', e, h4, _, h6, h7⟩
          have : pre = [] := h4 rfl
          subst this
          rw [List.nil_append] at e
          subst e
          cases s with
          | nil =>
            rw [stepsR_cons] at h6
            change stepsR c none = _ at h6
            rw [stepsR_none] at h6
            cases h6
          | cons x r =>
            rw [stepsR_cons, stepR_cons] at h6
            split at h6
            · rename_i ha
              exact ⟨x, r, rfl, ha, [], r, t', rfl, fun _ => rfl, by simp, h6, h7⟩
            · rw [stepsR_none] at h6; cases h6
        · rintro ⟨x, r, rfl, ha, pre, s', t', e, h4, _, h6, h7⟩
          have : pre = [] := h4 rfl
          subst this
          rw [List.nil_append] at e
          subst e
          refine ⟨[], x :: r, t', rfl, fun _ => rfl, by simp, ?_, h7⟩
          rw [stepsR_cons, stepR_cons, if_pos ha]
          exact h6
      rw [mtr_main ts t s _ ih, tsplit_ne ts h0]
      cases hs : tsplit ts with
      | nil =>
        simp only
        rw [step [] []]
        constructor
        · rintro ⟨x, r, e, h1, h2⟩
          exact ⟨x, r, e, h1, [], r, r, rfl, fun _ => rfl, by simp, rfl, h2⟩
        · rintro ⟨x, r, e, h1, pre, s', t', e2, h4, _, h6, h7⟩
          have : pre = [] := h4 rfl
          subst this
          injection h6 with h6
          subst h6
          refine ⟨x, r, e, h1, ?_⟩
          rw [e2]
          exact h7
      | cons z cs =>
        obtain ⟨b, c⟩ := z
        cases b with
        | false =>
          simp only
          rw [step c cs]
        | true =>
          simp only
          rw [step [] ((true, c) :: cs)]
          constructor
          · rintro ⟨x, r, e, h1, h2⟩
            exact ⟨x, r, e, h1, [], r, r, rfl, fun _ => rfl, by simp, rfl, h2⟩
          · rintro ⟨x, r, e, h1, pre, s', t', e2, h4, _, h6, h7⟩
            have : pre = [] := h4 rfl
            subst this
            injection h6 with h6
            subst h6
            refine ⟨x, r, e, h1, ?_⟩
            rw [e2]
            exact h7

/-- What the search finds is a division. -/
theorem gmcR_mtc : ∀ (cs : List (Bool × List Tm)) (s : List Nat), gmcR cs s = true → mtc cs s
  | [], s, h => by
    show s = []
    unfold gmcR at h
    cases s with
    | nil => rfl
    | cons => cases h
  | (star, c) :: cs, s, h => by
    unfold gmcR at h
    cases hf : firstR star c cs.isEmpty s with
    | none => rw [hf] at h; cases h
    | some t =>
      rw [hf] at h
      obtain ⟨pre, s', e, h1, h2, h3, _⟩ := firstR_suffix star c cs.isEmpty s t hf
      exact ⟨pre, s', t, e, h1, h2, h3, gmcR_mtc cs t h⟩
theorem gmR_mtr (ts : List Tm) (s : List Nat) (h : gmR ts s = true) : mtr ts s = true := (mtr_mtc ts s).2 (gmcR_mtc _ s h)

/-- The search finds the first place. -/
theorem firstR_first (star : Bool) (c : List Tm) (last : Bool) : ∀ (s pre s' t : List Nat), s = pre ++ s' → (star = false → pre = []) → 47 ∉ pre → stepsR c (some s') = some t → (last = true → t = []) →
    ∃ p1 s1 t1 p2, firstR star c last s = some t1 ∧ s = p1 ++ s1 ∧ pre = p1 ++ p2 ∧ s1 = p2 ++ s' ∧ stepsR c (some s1) = some t1 ∧ (last = true → t1 = [])
  | s, pre, s', t, e, hst, hp, hs, hl => by
    -- is there a match at the very beginning?
    by_cases hit : ∃ u, stepsR c (some s) = some u ∧ (last = true → u = [])
    · obtain ⟨u, hu, hul⟩ := hit
      refine ⟨[], s, u, pre, ?_, rfl, rfl, e, hu, hul⟩
      have hno : (last && !u.isEmpty) = false := by
        cases last with
        | false => rfl
        | true => rw [hul rfl]; rfl
      cases s with
      | nil => unfold firstR; rw [hu]; simp only [hno]; rfl
      | cons b s => unfold firstR; rw [hu]; simp only [hno]; rfl
    · cases pre with
      | nil =>
        rw [List.nil_append] at e
        subst e
        exact absurd ⟨t, hs, hl⟩ hit
      | cons b pre =>
        have hst' : star = true := by
          cases star with
          | true => rfl
          | false => cases hst rfl
        have hb : b ≠ 47 := by intro x; subst x; simp at hp
        cases s with
        | nil => cases e
        | cons b' r =>
          injection e with e1 e2
          obtain rfl : b = b' := e1.symm
          obtain ⟨p1, s1, t1, p2, i1, i2, i3, i4, i5, i6⟩ := firstR_first star c last r pre s' t e2 (fun x => by rw [hst'] at x; cases x) (fun x => hp (by simp [x])) hs hl
          refine ⟨b :: p1, s1, t1, p2, ?_, by rw [i2]; rfl, by rw [i3]; rfl, i4, i5, i6⟩
          have hgo : (star && b != 47) = true := by rw [hst']; simpa using hb
          unfold firstR
          cases hu : stepsR c (some (b :: r)) with
          | none => simp only; rw [if_pos hgo]; exact i1
          | some u =>
            simp only
            have : (last && !u.isEmpty) = true := by
              cases last with
              | false => exact absurd ⟨u, hu, fun x => by cases x⟩ hit
              | true =>
                cases u with
                | nil => exact absurd ⟨[], hu, fun _ => rfl⟩ hit
                | cons => rfl
            rw [if_pos this, if_pos hgo]
            exact i1

theorem stepsR_at : ∀ (c : List Tm) (s t : List Nat), stepsR c (some s) = some t → t = s.drop c.length ∧ ∀ (i : Nat) (x : Tm) (y : Nat), c[i]? = some x → s[i]? = some y → adm x y = true
  | [], s, t, h => by injection h with h; subst h; exact ⟨rfl, fun i x y hx => by simp at hx⟩
  | a :: c, [], t, h => by
    rw [stepsR_cons] at h
    change stepsR c none = _ at h
    rw [stepsR_none] at h
    cases h
  | a :: c, b :: s, t, h => by
    rw [stepsR_cons, stepR_cons] at h
    split at h
    · rename_i ha
      obtain ⟨i1, i2⟩ := stepsR_at c s t h
      refine ⟨by rw [i1]; rfl, ?_⟩
      intro i x y hx hy
      cases i with
      | zero => simp at hx hy; subst hx; subst hy; exact ha
      | succ i => exact i2 i x y (by simpa using hx) (by simpa using hy)
    · rw [stepsR_none] at h; cases h

/-- spec.SlashClass. -/
def slashClass (ts : List Tm) : Bool := ts.any fun t => decide (t.kind = 2) && adm t 47
/-- No slash can be in the way: the chunk matches at an earlier place too. -/
theorem no_slash_between (c : List Tm) (hk : ∀ t ∈ c, goodTm t ∧ t.kind ≠ 0) (hsc : slashClass c = false) (p2 s' s1 t1 t : List Nat) (e : s1 = p2 ++ s') (hp : 47 ∉ p2) (hd : p2 ≠ []) (h1 : stepsR c (some s1) = some t1) (h2 : stepsR c (some s') = some t) :
    ∀ (i : Nat), i < c.length + p2.length → s1[i]? ≠ some 47 := by
  obtain ⟨_, a1⟩ := stepsR_at c s1 t1 h1
  obtain ⟨_, a2⟩ := stepsR_at c s' t h2
  have hd' := List.length_pos_iff.2 hd
  intro i
  induction i using Nat.strongRecOn with
  | ind i ih =>
    intro hi he
    by_cases hlt : i < p2.length
    · rw [e, List.getElem?_append_left hlt] at he
      exact hp (List.mem_of_getElem? he)
    · rw [e, List.getElem?_append_right (by omega)] at he
      have hic : i - p2.length < c.length := by omega
      have hx := List.getElem?_eq_getElem hic
      have had := a2 _ _ _ hx he
      have hm : c[i - p2.length] ∈ c := List.getElem_mem hic
      obtain ⟨hg, hk0⟩ := hk _ hm
      -- the term is a slash alone
      have hchr : c[i - p2.length].kind = 3 ∧ c[i - p2.length].chr = 47 := by
        rcases hg with ⟨k, _⟩ | ⟨k, _⟩ | ⟨k, _⟩ | ⟨k, _⟩
        · exact absurd k hk0
        · unfold adm at had
          rw [if_pos k] at had
          simp at had
        · have := List.any_eq_false.1 hsc _ hm
          rw [had, k] at this
          simp at this
        · unfold adm at had
          rw [if_neg (by omega), if_pos k] at had
          have := of_decide_eq_true had
          exact ⟨k, this.symm⟩
      -- so the earlier match has a slash there
      obtain ⟨pre, epre, hlen⟩ := stepsR_suffix c s1 t1 h1
      have hin : i - p2.length < s1.length := by rw [epre, List.length_append]; omega
      have hy := List.getElem?_eq_getElem hin
      have had1 := a1 _ _ _ hx hy
      unfold adm at had1
      rw [if_neg (by omega), if_pos hchr.1] at had1
      have := of_decide_eq_true had1
      rw [hchr.2] at this
      rw [this] at hy
      exact ih (i - p2.length) (by omega) (by omega) hy

theorem mem_take_drop {s : List Nat} {k n : Nat} {x : Nat} (h : x ∈ (s.drop k).take n) : ∃ i, i < k + n ∧ s[i]? = some x := by
  obtain ⟨j, hj, he⟩ := List.getElem_of_mem h
  have hjn : j < n := by rw [List.length_take] at hj; omega
  refine ⟨k + j, by omega, ?_⟩
  have h2 : ((s.drop k).take n)[j]? = some x := by rw [List.getElem?_eq_getElem hj, he]
  rw [List.getElem?_take, if_pos hjn, List.getElem?_drop] at h2
  exact h2

/-- How many chunks stand behind a star. -/
def starC (cs : List (Bool × List Tm)) : Nat := (cs.filter fun x => x.1).length
/-- All chunks but the first one stand behind a star. -/
def starsC (cs : List (Bool × List Tm)) : Prop := ∀ x ∈ cs.tail, x.1 = true

theorem mtc_gmcR : ∀ (cs : List (Bool × List Tm)) (s : List Nat), soundC cs → starsC cs → ((∀ x ∈ cs, slashClass x.2 = false) ∨ 47 ∉ s ∨ starC cs ≤ 1) → mtc cs s → gmcR cs s = true
  | [], s, _, _, _, h => by
    have : s = [] := h
    subst this
    rfl
  | (star, c) :: cs, s, hk, hst, hd, h => by
    obtain ⟨pre, s', t, e, h1, h2, h3, h4⟩ := h
    have hlast : cs.isEmpty = true → t = [] := by
      intro he
      cases cs with
      | nil => exact h4
      | cons => cases he
    obtain ⟨p1, s1, t1, p2, i1, i2, i3, i4, i5, i6⟩ := firstR_first star c cs.isEmpty s pre s' t e h1 h2 h3 hlast
    unfold gmcR
    rw [i1]
    simp only
    have hp2 : 47 ∉ p2 := fun x => h2 (by rw [i3]; simp [x])
    have hk' : soundC cs := fun x hx => hk x (by simp [hx])
    have hst' : starsC cs := by
      intro x hx
      exact hst x (by cases cs with | nil => cases hx | cons y ys => simp at hx ⊢; exact .inr hx)
    have hs1 : ∀ x, x ∈ t1 → x ∈ s := by
      intro x hx
      obtain ⟨q, eq, _⟩ := stepsR_suffix c s1 t1 i5
      rw [i2, eq]
      simp [hx]
    have hd' : (∀ x ∈ cs, slashClass x.2 = false) ∨ 47 ∉ t1 ∨ starC cs ≤ 1 := by
      rcases hd with h | h | h
      · exact .inl (fun x hx => h x (by simp [hx]))
      · exact .inr (.inl (fun x => h (hs1 _ x)))
      · refine .inr (.inr ?_)
        unfold starC at h ⊢
        rw [List.filter_cons] at h
        split at h
        · rw [List.length_cons] at h; omega
        · exact h
    refine mtc_gmcR cs t1 hk' hst' hd' ?_
    -- a division of what the first place leaves
    by_cases hp : p2 = []
    · subst hp
      rw [List.nil_append] at i4
      subst i4
      rw [h3] at i5
      injection i5 with i5
      subst i5
      exact h4
    · cases cs with
      | nil =>
        have := i6 rfl
        exact this
      | cons x cs' =>
        obtain ⟨b, c'⟩ := x
        obtain rfl : b = true := hst (b, c') (by simp)
        -- what lies between
        obtain ⟨d1, a1⟩ := stepsR_at c s1 t1 i5
        obtain ⟨d2, a2⟩ := stepsR_at c s' t h3
        have hmid : t1 = (s1.drop c.length).take p2.length ++ t := by
          rw [d1, d2]
          have : s'.drop c.length = (s1.drop c.length).drop p2.length := by
            have e1 : c.length + p2.length - p2.length = c.length := by omega
            rw [i4, List.drop_drop, List.drop_append, List.drop_eq_nil_of_le (as := p2) (by omega), e1, List.nil_append]
          rw [this, List.take_append_drop]
        rw [hmid]
        refine mtc_skip h4 ?_
        intro hx
        rcases hd with h | h | h
        · have hsl := h (star, c) (by simp)
          obtain ⟨i, hi, hy⟩ := mem_take_drop hx
          exact no_slash_between c (hk (star, c) (by simp)) hsl p2 s' s1 t1 t i4 hp2 hp i5 h3 i hi hy
        · refine h ?_
          rw [i2]
          have := List.mem_of_mem_drop (List.mem_of_mem_take hx)
          simp [this]
        · -- two chunks behind stars are one too many
          have hstar : star = true := by
            cases star with
            | true => rfl
            | false =>
              have : pre = [] := h1 rfl
              rw [this] at i3
              have := (List.append_eq_nil_iff.1 i3.symm).2
              exact absurd this hp
          unfold starC at h
          rw [hstar] at h
          simp at h

theorem starsC_tsplit : ∀ (ts : List Tm), starsC (tsplit ts)
  | [] => by intro x hx; cases hx
  | t :: ts => by
    have ih := starsC_tsplit ts
    unfold tsplit
    split
    · cases hs : tsplit ts with
      | nil => intro x hx; cases hx
      | cons z cs =>
        rw [hs] at ih
        obtain ⟨b, c⟩ := z
        cases b <;> exact ih
    · cases hs : tsplit ts with
      | nil => intro x hx; cases hx
      | cons z cs =>
        rw [hs] at ih
        obtain ⟨b, c⟩ := z
        cases b with
        | false => exact ih
        | true =>
          intro x hx
          rcases List.mem_cons.1 hx with rfl | hx
          · rfl
          · exact ih x hx

/-- spec.StarRuns: p: was the term before a star? -/
def starRuns : Bool → List Tm → Nat
  | _, [] => 0
  | p, t :: ts => (if t.kind = 0 ∧ p = false then 1 else 0) + starRuns (decide (t.kind = 0)) ts
theorem starRuns_C : ∀ (ts : List Tm), starRuns false ts = starC (tsplit ts) ∧ starRuns true ts + (match tsplit ts with | (true, _) :: _ => 1 | _ => 0) = starC (tsplit ts)
  | [] => ⟨rfl, rfl⟩
  | t :: ts => by
    obtain ⟨i1, i2⟩ := starRuns_C ts
    unfold starRuns tsplit
    by_cases h0 : t.kind = 0
    · rw [if_pos h0, decide_eq_true h0]
      cases hs : tsplit ts with
      | nil =>
        rw [hs] at i2
        simp [starC, h0] at i2 ⊢
        omega
      | cons z cs =>
        rw [hs] at i2
        obtain ⟨b, c⟩ := z
        cases b <;> simp [starC, h0] at i2 ⊢ <;> omega
    · rw [if_neg h0, decide_eq_false h0]
      cases hs : tsplit ts with
      | nil =>
        rw [hs] at i1
        simp [starC, h0] at i1 ⊢
        omega
      | cons z cs =>
        rw [hs] at i1
        obtain ⟨b, c⟩ := z
        cases b <;> simp [starC, h0] at i1 ⊢ <;> omega

theorem slashClass_tsplit (ts : List Tm) (h : slashClass ts = false) : ∀ x ∈ tsplit ts, slashClass x.2 = false := by
  intro x hx
  have := tsplit_all (fun t => (decide (t.kind = 2) && adm t 47) = false) ts (fun t ht => by
    have := List.any_eq_false.1 h t ht
    simpa using this) x hx
  unfold slashClass
  rw [List.any_eq_false]
  intro t ht
  rw [(this t ht).1]
  simp

/-- At decided pairs the search finds a division if there is one. -/
theorem gmR_decided (ts : List Tm) (s : List Nat) (hg : ∀ t ∈ ts, goodTm t) (hd : slashClass ts = false ∨ 47 ∉ s ∨ starRuns false ts < 2) : gmR ts s = mtr ts s := by
  rw [Bool.eq_iff_iff]
  constructor
  · exact gmR_mtr ts s
  · intro h
    refine mtc_gmcR (tsplit ts) s (fun x hx => tsplit_all goodTm ts hg x hx) (starsC_tsplit ts) ?_ ((mtr_mtc ts s).1 h)
    rcases hd with h | h | h
    · exact .inl (slashClass_tsplit ts h)
    · exact .inr (.inl h)
    · rw [(starRuns_C ts).1] at h
      exact .inr (.inr (by omega))

end Go.Proofs.YtcoaoheakeodoaaDoor

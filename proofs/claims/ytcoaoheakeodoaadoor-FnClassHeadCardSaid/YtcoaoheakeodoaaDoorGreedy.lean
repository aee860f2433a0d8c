/-
  Matching over characters: the greedy search and the divisions of a name; at sound pairs the code's search over bytes is the one over characters, at decided pairs it finds a division if there is one. Conditions: none beyond those of each theorem.
-/
import Derived.Test.YtcoaoheakeodoaaDoorRead
namespace Go.Proofs.YtcoaoheakeodoaaDoor
open Go Go.Lib

/-- spec.Admits. -/
def adm (t : Tm) (c : Nat) : Bool := if t.kind = 1 then decide (c ≠ 47) else if t.kind = 3 then decide (c = t.chr) else inR t.rs c != t.neg

def stepR (t : Tm) : List Nat → Option (List Nat)
  | [] => none
  | c :: s => if adm t c then some s else none
theorem stepR_cons (t : Tm) (c : Nat) (s : List Nat) : stepR t (c :: s) = if adm t c then some s else none := rfl
def stepsR : List Tm → Option (List Nat) → Option (List Nat)
  | [], s => s
  | t :: ts, s => stepsR ts (s.bind (stepR t))
theorem stepsR_none : ∀ ts, stepsR ts none = none
  | [] => rfl
  | _ :: ts => stepsR_none ts
theorem stepsR_cons (t : Tm) (ts : List Tm) (s : List Nat) : stepsR (t :: ts) (some s) = stepsR ts (stepR t s) := rfl

/-- The divisions of a name among terms: spec.MatchTerms. -/
def fitStar (behind : List Nat → Bool) : List Nat → Bool
  | [] => behind []
  | c :: s => behind (c :: s) || (decide (c ≠ 47) && fitStar behind s)
def fitOne (t : Tm) (behind : List Nat → Bool) : List Nat → Bool
  | [] => false
  | c :: s => adm t c && behind s
def mtr : List Tm → List Nat → Bool
  | [], s => s.isEmpty
  | t :: ts, s => if t.kind = 0 then fitStar (mtr ts) s else fitOne t (mtr ts) s

/-- The first place at which terms match. -/
def firstR (star : Bool) (ts : List Tm) (last : Bool) : List Nat → Option (List Nat)
  | [] => match stepsR ts (some []) with
    | some t => if last && !t.isEmpty then none else some t
    | none => none
  | b :: s => match stepsR ts (some (b :: s)) with
    | some t => if last && !t.isEmpty then (if star && b != 47 then firstR star ts last s else none) else some t
    | none => if star && b != 47 then firstR star ts last s else none
def gmcR : List (Bool × List Tm) → List Nat → Bool
  | [], s => s.isEmpty
  | (star, ts) :: cs, s => match firstR star ts cs.isEmpty s with
    | some t => gmcR cs t
    | none => false
def gmR (ts : List Tm) (s : List Nat) : Bool := gmcR (tsplit ts) s

/-! ### From bytes to characters -/

theorem step_ex (t : Tm) (hg : goodTm t) (h0 : t.kind ≠ 0) (s : List Nat) (hs : scs s) : steps (ex t) (some (encs s)) = (stepR t s).map encs := by
  cases s with
  | nil =>
    show steps (ex t) (some []) = none
    unfold ex
    split
    · rw [steps_lits, if_neg]
      intro hp
      exact enc_ne _ (List.prefix_nil.1 hp)
    · rfl
  | cons c s =>
    obtain ⟨h1, h2⟩ := scs_cons.1 hs
    obtain ⟨b, r, hb⟩ : ∃ b r, encs (c :: s) = b :: r := by
      cases he : encs (c :: s) with
      | nil => exact absurd ((encs_nil_iff _).1 he) (by simp)
      | cons b r => exact ⟨b, r, rfl⟩
    have hd : (b :: r).drop (dec (b :: r)).2 = encs s ∧ (dec (b :: r)).1 = c := by
      rw [← hb, encs_cons, dec_enc h1]
      exact ⟨by simp, rfl⟩
    have h47 : b = 47 ↔ c = 47 := by
      have := head_encs c s 47 (by omega)
      rw [hb] at this
      simpa using this
    rcases hg with ⟨k, _⟩ | ⟨k, e⟩ | ⟨k, e, _, _⟩ | ⟨k, e, hc⟩
    · exact absurd k h0
    · rw [stepR_cons]
      unfold ex adm
      rw [if_neg (by omega), if_pos k, hb]
      show step t (b :: r) = _
      unfold step
      simp only
      rw [if_pos k, hd.1]
      by_cases hc : c = 47
      · rw [if_pos (h47.2 hc), if_neg (by simpa using hc)]
        rfl
      · rw [if_neg (fun x => hc (h47.1 x)), if_pos (by simpa using hc)]
        rfl
    · rw [stepR_cons]
      unfold ex adm
      rw [if_neg (show ¬ t.kind = 3 by omega), if_neg (show ¬ t.kind = 1 by omega), if_neg (show ¬ t.kind = 3 by omega), hb]
      show step t (b :: r) = _
      unfold step
      simp only
      rw [if_neg (by omega), if_pos k, hd.1, hd.2]
      by_cases hr : inR t.rs c = t.neg
      · rw [if_pos hr, if_neg (by simp [hr])]
        rfl
      · rw [if_neg hr, if_pos (by simpa using hr)]
        rfl
    · rw [stepR_cons]
      unfold ex adm
      rw [if_pos k, if_neg (show ¬ t.kind = 1 by omega), if_pos k, steps_lits, encs_cons]
      by_cases hcc : c = t.chr
      · subst hcc
        rw [if_pos ⟨_, rfl⟩, if_pos (by simp)]
        simp
      · rw [if_neg (fun hp => hcc (enc_prefix hc h1 _ hp).symm), if_neg (by simpa using hcc)]
        rfl

theorem stepR_sc {t : Tm} {s r : List Nat} (h : stepR t s = some r) (hs : scs s) : scs r := by
  cases s with
  | nil => cases h
  | cons c s =>
    rw [stepR_cons] at h
    split at h
    · injection h with h; subst h; exact (scs_cons.1 hs).2
    · cases h

/-- Terms that were read, none of them a star. -/
def plainT (ts : List Tm) : Prop := ∀ t ∈ ts, goodTm t ∧ t.kind ≠ 0

theorem steps_exs : ∀ (ts : List Tm) (s : List Nat), plainT ts → scs s → steps (exs ts) (some (encs s)) = (stepsR ts (some s)).map encs
  | [], s, _, _ => rfl
  | t :: ts, s, ht, hs => by
    obtain ⟨h1, h2⟩ := ht t (by simp)
    rw [exs_cons, steps_append, step_ex t h1 h2 s hs, stepsR_cons]
    cases hr : stepR t s with
    | none =>
      show steps (exs ts) none = _
      rw [steps_none, stepsR_none]
      rfl
    | some r => exact steps_exs ts r (fun x hx => ht x (by simp [hx])) (stepR_sc hr hs)

theorem stepsR_sc : ∀ (ts : List Tm) (s r : List Nat), stepsR ts (some s) = some r → scs s → scs r
  | [], s, r, h, hs => by injection h with h; subst h; exact hs
  | t :: ts, s, r, h, hs => by
    rw [stepsR_cons] at h
    cases hr : stepR t s with
    | none => rw [hr, stepsR_none] at h; cases h
    | some u => rw [hr] at h; exact stepsR_sc ts u r h (stepR_sc hr hs)

/-- No question mark and no class at the head. -/
def okHead (ts : List Tm) : Prop := match ts with
  | [] => True
  | t :: _ => t.kind = 3
def asc (s : List Nat) : Prop := ∀ c ∈ s, c < 128

theorem steps_cont {ts : List Tm} (ht : ∃ t us, ts = t :: us ∧ t.kind = 3) {b : UInt8} (h1 : 128 ≤ b.toNat) (h2 : b.toNat < 192) (r : Bs) : steps (exs ts) (some (b :: r)) = none := by
  obtain ⟨t, us, rfl, hk⟩ := ht
  rw [exs_cons, steps_append]
  have : steps (ex t) (some (b :: r)) = none := by
    unfold ex
    rw [if_pos hk, steps_lits, if_neg]
    rintro ⟨q, hq⟩
    by_cases hc : t.chr < 128
    · rw [enc_ascii hc] at hq
      injection hq with e _
      have := congrArg UInt8.toNat e
      rw [toNat_ofNat8 _ (by omega)] at this
      omega
    · obtain ⟨x, y, e, hx, _, _⟩ := enc_high (c := t.chr) (by omega)
      rw [e] at hq
      injection hq with e _
      subst e
      omega
  rw [this, steps_none]

theorem isEmpty_encs (s : List Nat) : (encs s).isEmpty = s.isEmpty := by
  cases s with
  | nil => rfl
  | cons c s =>
    rw [encs_cons]
    cases h : enc c with
    | nil => exact absurd h (enc_ne c)
    | cons => rfl

/-- The search goes over what is left of a character. -/
theorem first_skip (ts : List Tm) (last : Bool) (h : (∃ t us, ts = t :: us ∧ t.kind = 3) ∨ (ts = [] ∧ last = true)) (r : Bs) : ∀ (l : Bs), (∀ x ∈ l, 128 ≤ x.toNat ∧ x.toNat < 192) → first true (exs ts) last (l ++ r) = first true (exs ts) last r
  | [], _ => rfl
  | b :: l, hl => by
    obtain ⟨h1, h2⟩ := hl b (by simp)
    have hb : b ≠ 47 := by rintro rfl; exact absurd h1 (by decide)
    have ih := first_skip ts last h r l (fun x hx => hl x (by simp [hx]))
    rw [List.cons_append, first_miss]
    · rw [if_pos rfl]
      show (if b ≠ 47 then first true (exs ts) last (l ++ r) else none) = _
      rw [if_pos hb, ih]
    · intro t ht
      rcases h with h | ⟨rfl, rfl⟩
      · rw [steps_cont h h1 h2] at ht; cases ht
      · injection ht with ht
        subst ht
        rfl

theorem first_encs (star : Bool) (ts : List Tm) (last : Bool) (hp : plainT ts) : ∀ (s : List Nat), scs s → (star = true → asc s ∨ okHead ts) → first star (exs ts) last (encs s) = (firstR star ts last s).map encs
  | [], _, _ => by
    have e := steps_exs ts [] hp (by simp [scs])
    rw [encs_nil] at e ⊢
    unfold first firstR
    rw [e]
    cases h : stepsR ts (some []) with
    | none => rfl
    | some t =>
      simp only [Option.map_some, isEmpty_encs]
      split <;> rfl
  | c :: s, hs, ha => by
    obtain ⟨h1, h2⟩ := scs_cons.1 hs
    have e := steps_exs ts (c :: s) hp hs
    have hrec : star = true → first star (exs ts) last (encs s) = (firstR star ts last s).map encs := fun hst => first_encs star ts last hp s h2 (fun x => by
      rcases ha x with h | h
      · exact .inl (fun y hy => h y (by simp [hy]))
      · exact .inr h)
    obtain ⟨b, r, hb⟩ : ∃ b r, encs (c :: s) = b :: r := by
      cases he : encs (c :: s) with
      | nil => exact absurd ((encs_nil_iff _).1 he) (by simp)
      | cons b r => exact ⟨b, r, rfl⟩
    have h47 : b = 47 ↔ c = 47 := by
      have := head_encs c s 47 (by omega)
      rw [hb] at this
      simpa using this
    -- what a miss leads to
    have miss : (∀ t, steps (exs ts) (some (encs (c :: s))) = some t → (last && !t.isEmpty) = true) → first star (exs ts) last (encs (c :: s)) = (if star && c != 47 then firstR star ts last s else none).map encs := by
      intro hm
      rw [first_miss star (exs ts) last _ hm]
      cases star with
      | false => rfl
      | true =>
        rw [if_pos rfl, hb]
        show (if b ≠ 47 then first true (exs ts) last r else none) = _
        by_cases hc : c = 47
        · rw [if_neg (by simpa using h47.2 hc)]
          subst hc
          rfl
        · rw [if_pos (fun x => hc (h47.1 x))]
          have e2 : (true && c != 47) = true := by simpa using hc
          rw [e2, if_pos rfl, ← hrec rfl]
          rcases ha rfl with h | h
          · have hlt := h c (by simp)
            rw [encs_cons, enc_ascii hlt] at hb
            injection hb with _ hb
            rw [← hb]
            rfl
          · have hd : (∃ t us, ts = t :: us ∧ t.kind = 3) ∨ (ts = [] ∧ last = true) := by
              cases ts with
              | nil =>
                right
                refine ⟨rfl, ?_⟩
                have := hm (encs (c :: s)) rfl
                cases last with
                | true => rfl
                | false => cases this
              | cons t us => exact .inl ⟨t, us, rfl, h⟩
            by_cases hlt : c < 128
            · rw [encs_cons, enc_ascii hlt] at hb
              injection hb with _ hb
              rw [← hb]
              rfl
            · obtain ⟨x, y, ex, _, _, hy⟩ := enc_high (c := c) (by omega)
              rw [encs_cons, ex] at hb
              injection hb with _ hb
              rw [← hb]
              exact first_skip ts last hd (encs s) y hy
    unfold firstR
    cases h : stepsR ts (some (c :: s)) with
    | none =>
      rw [h] at e
      simp only
      exact miss (fun t ht => by rw [e] at ht; cases ht)
    | some t =>
      rw [h] at e
      simp only
      by_cases hl : (last && !t.isEmpty) = true
      · rw [if_pos hl]
        exact miss (fun u hu => by rw [e] at hu; injection hu with hu; subst hu; rw [isEmpty_encs]; exact hl)
      · rw [if_neg hl]
        exact first_hit star (exs ts) last _ _ e (by rw [isEmpty_encs]; simpa using hl)

theorem firstR_suffix (star : Bool) (ts : List Tm) (last : Bool) : ∀ (s t : List Nat), firstR star ts last s = some t → ∃ pre s', s = pre ++ s' ∧ (star = false → pre = []) ∧ 47 ∉ pre ∧ stepsR ts (some s') = some t ∧ (last && !t.isEmpty) = false
  | [], t, h => by
    unfold firstR at h
    cases hs : stepsR ts (some []) with
    | none => rw [hs] at h; cases h
    | some u =>
      rw [hs] at h
      simp only at h
      split at h
      · cases h
      · rename_i hl
        injection h with h
        subst h
        exact ⟨[], [], rfl, fun _ => rfl, by simp, hs, by simpa using hl⟩
  | b :: s, t, h => by
    have next : (if star && b != 47 then firstR star ts last s else none) = some t → ∃ pre s', b :: s = pre ++ s' ∧ (star = false → pre = []) ∧ 47 ∉ pre ∧ stepsR ts (some s') = some t ∧ (last && !t.isEmpty) = false := by
      intro h
      split at h
      · rename_i hc
        obtain ⟨pre, s', e, h1, h2, h3, h4⟩ := firstR_suffix star ts last s t h
        have hst : star = true := by cases star <;> simp_all
        have hb : b ≠ 47 := by rw [hst] at hc; simpa using hc
        exact ⟨b :: pre, s', by rw [e]; rfl, (fun x => by rw [hst] at x; cases x), by simp [h2, Ne.symm hb], h3, h4⟩
      · cases h
    unfold firstR at h
    cases hs : stepsR ts (some (b :: s)) with
    | none => rw [hs] at h; exact next h
    | some u =>
      rw [hs] at h
      simp only at h
      by_cases hl : (last && !u.isEmpty) = true
      · rw [if_pos hl] at h
        exact next h
      · rw [if_neg hl] at h
        injection h with h
        subst h
        exact ⟨[], b :: s, rfl, fun _ => rfl, by simp, hs, by simpa using hl⟩

theorem stepsR_suffix : ∀ (ts : List Tm) (s t : List Nat), stepsR ts (some s) = some t → ∃ pre, s = pre ++ t ∧ pre.length = ts.length
  | [], s, t, h => by injection h with h; subst h; exact ⟨[], rfl, rfl⟩
  | x :: ts, [], t, h => by
    rw [stepsR_cons] at h
    change stepsR ts none = _ at h
    rw [stepsR_none] at h
    cases h
  | x :: ts, c :: s, t, h => by
    rw [stepsR_cons] at h
    rw [stepR_cons] at h
    split at h
    · obtain ⟨pre, e, hl⟩ := stepsR_suffix ts s t h
      exact ⟨c :: pre, by rw [e]; rfl, by simp [hl]⟩
    · rw [stepsR_none] at h; cases h

/-- What is asked of chunks so that no part of a character is taken for one. -/
def soundC (cs : List (Bool × List Tm)) : Prop := ∀ x ∈ cs, plainT x.2
def headsC (cs : List (Bool × List Tm)) : Prop := ∀ x ∈ cs, x.1 = true → okHead x.2

theorem gmc_encs : ∀ (cs : List (Bool × List Tm)) (s : List Nat), soundC cs → scs s → asc s ∨ headsC cs → gmc (cs.map fun x => (x.1, exs x.2)) (encs s) = gmcR cs s
  | [], s, _, _, _ => isEmpty_encs s
  | (star, ts) :: cs, s, hc, hs, ha => by
    have he : (cs.map fun x => (x.1, exs x.2)).isEmpty = cs.isEmpty := by cases cs <;> rfl
    show gmc ((star, exs ts) :: cs.map fun x => (x.1, exs x.2)) (encs s) = _
    unfold gmc gmcR
    rw [he, first_encs star ts cs.isEmpty (hc (star, ts) (by simp)) s hs (fun hst => by
      rcases ha with h | h
      · exact .inl h
      · exact .inr (h (star, ts) (by simp) hst))]
    cases hf : firstR star ts cs.isEmpty s with
    | none => rfl
    | some t =>
      obtain ⟨pre, s', e, _, _, h3, _⟩ := firstR_suffix star ts cs.isEmpty s t hf
      obtain ⟨pre', e', _⟩ := stepsR_suffix ts s' t h3
      have hs' : scs t := stepsR_sc ts s' t h3 (by rw [e] at hs; exact (scs_append.1 hs).2)
      refine gmc_encs cs t (fun x hx => hc x (by simp [hx])) hs' ?_
      rcases ha with h | h
      · left
        intro c hcm
        exact h c (by rw [e, e']; simp [hcm])
      · exact .inr (fun x hx => h x (by simp [hx]))

/-! ### The chunks of terms -/

theorem ex_kind (t : Tm) (ht : t.kind ≠ 0) : ex t ≠ [] ∧ ∀ x ∈ ex t, x.kind ≠ 0 := by
  unfold ex
  split
  · refine ⟨?_, lits_kind _⟩
    unfold lits
    intro e
    exact enc_ne _ (List.map_eq_nil_iff.1 e)
  · refine ⟨by simp, ?_⟩
    intro x hx
    simp at hx
    subst hx
    exact ht
theorem ex_star (t : Tm) (ht : t.kind = 0) : ex t = [t] := by unfold ex; rw [if_neg (by omega)]

theorem tsplit_pre : ∀ (l us : List Tm), l ≠ [] → (∀ x ∈ l, x.kind ≠ 0) → tsplit (l ++ us) = match tsplit us with
    | (false, c) :: cs => (false, l ++ c) :: cs
    | (true, c) :: cs => (false, l) :: (true, c) :: cs
    | [] => [(false, l)]
  | [], _, h, _ => absurd rfl h
  | [t], us, _, hk => by
    show tsplit (t :: us) = _
    conv => lhs; unfold tsplit
    rw [if_neg (hk t (by simp))]
    rfl
  | t :: t' :: l, us, _, hk => by
    have ih := tsplit_pre (t' :: l) us (by simp) (fun x hx => hk x (by simp [hx]))
    rw [List.cons_append]
    conv => lhs; unfold tsplit
    rw [if_neg (hk t (by simp)), ih]
    cases tsplit us with
    | nil => rfl
    | cons x cs =>
      obtain ⟨b, c⟩ := x
      cases b <;> rfl

theorem tsplit_exs : ∀ (ts : List Tm), tsplit (exs ts) = (tsplit ts).map fun x => (x.1, exs x.2)
  | [] => rfl
  | t :: ts => by
    have ih := tsplit_exs ts
    rw [exs_cons]
    by_cases h0 : t.kind = 0
    · rw [ex_star t h0]
      show tsplit (t :: exs ts) = _
      unfold tsplit
      rw [if_pos h0, if_pos h0, ih]
      cases tsplit ts with
      | nil => rfl
      | cons x cs =>
        obtain ⟨b, c⟩ := x
        cases b <;> rfl
    · obtain ⟨h1, h2⟩ := ex_kind t h0
      rw [tsplit_pre _ _ h1 h2, ih]
      conv => rhs; unfold tsplit
      rw [if_neg h0]
      cases tsplit ts with
      | nil =>
        show [(false, ex t)] = [(false, exs [t])]
        simp [exs]
      | cons x cs =>
        obtain ⟨b, c⟩ := x
        cases b with
        | false => rfl
        | true =>
          show _ = (false, exs [t]) :: _
          simp [exs]

theorem tsplit_all (P : Tm → Prop) : ∀ (ts : List Tm), (∀ t ∈ ts, P t) → ∀ x ∈ tsplit ts, ∀ t ∈ x.2, P t ∧ t.kind ≠ 0
  | [], _, x, hx => by cases hx
  | t :: ts, h, x, hx => by
    have ih := tsplit_all P ts (fun y hy => h y (by simp [hy]))
    unfold tsplit at hx
    split at hx
    · cases hs : tsplit ts with
      | nil =>
        rw [hs] at hx
        simp at hx
        subst hx
        intro y hy
        cases hy
      | cons z cs =>
        rw [hs] at hx ih
        obtain ⟨b, c⟩ := z
        have hx' : x = (true, c) ∨ x ∈ cs := by cases b <;> simpa using hx
        rcases hx' with rfl | hx'
        · exact ih (b, c) (by simp)
        · exact ih x (by simp [hx'])
    · rename_i h0
      have ht := h t (by simp)
      cases hs : tsplit ts with
      | nil =>
        rw [hs] at hx
        simp at hx
        subst hx
        intro y hy
        simp at hy
        subst hy
        exact ⟨ht, h0⟩
      | cons z cs =>
        rw [hs] at hx ih
        obtain ⟨b, c⟩ := z
        cases b with
        | false =>
          have hx' : x = (false, t :: c) ∨ x ∈ cs := by simpa using hx
          rcases hx' with rfl | hx'
          · intro y hy
            rcases List.mem_cons.1 hy with rfl | hy
            · exact ⟨ht, h0⟩
            · exact ih (false, c) (by simp) y hy
          · exact ih x (by simp [hx'])
        | true =>
          have hx' : x = (false, [t]) ∨ x = (true, c) ∨ x ∈ cs := by simpa using hx
          rcases hx' with rfl | rfl | hx'
          · intro y hy
            simp at hy
            subst hy
            exact ⟨ht, h0⟩
          · exact ih (true, c) (by simp)
          · exact ih x (by simp [hx'])

/-- spec.OpenStar. -/
def openStar : List Tm → Bool
  | a :: b :: ts => (decide (a.kind = 0) && (decide (b.kind = 1) || decide (b.kind = 2))) || openStar (b :: ts)
  | _ => false

theorem tsplit_heads : ∀ (ts : List Tm), (∀ t ∈ ts, goodTm t) → openStar ts = false → headsC (tsplit ts) ∧ (∀ t us, ts = t :: us → t.kind ≠ 0 → ∃ c cs, tsplit ts = (false, t :: c) :: cs)
  | [], _, _ => ⟨(by intro x hx; cases hx), (by intro t us h; cases h)⟩
  | t :: ts, hg, ho => by
    have ho' : openStar ts = false := by
      cases ts with
      | nil => rfl
      | cons b ts => unfold openStar at ho; rw [Bool.or_eq_false_iff] at ho; exact ho.2
    obtain ⟨ih, ihd⟩ := tsplit_heads ts (fun y hy => hg y (by simp [hy])) ho'
    by_cases h0 : t.kind = 0
    · refine ⟨?_, fun t' us h hk => by injection h with h1 _; subst h1; exact absurd h0 hk⟩
      unfold tsplit
      rw [if_pos h0]
      cases ts with
      | nil => intro x hx _; simp [tsplit] at hx; subst hx; trivial
      | cons b ts =>
        unfold openStar at ho
        rw [Bool.or_eq_false_iff] at ho
        have hb : b.kind ≠ 1 ∧ b.kind ≠ 2 := by
          have := ho.1
          simp [h0] at this
          exact this
        by_cases hb0 : b.kind = 0
        · have hst : ∃ c cs, tsplit (b :: ts) = (true, c) :: cs := by
            unfold tsplit
            rw [if_pos hb0]
            split <;> exact ⟨_, _, rfl⟩
          obtain ⟨c, cs, e⟩ := hst
          rw [e] at ih ⊢
          exact ih
        · obtain ⟨c, cs, e⟩ := ihd b ts rfl hb0
          rw [e] at ih ⊢
          intro x hx hx1
          rcases List.mem_cons.1 hx with rfl | hx
          · show b.kind = 3
            rcases hg b (by simp) with ⟨k, _⟩ | ⟨k, _⟩ | ⟨k, _⟩ | ⟨k, _⟩
            · exact absurd k hb0
            · exact absurd k hb.1
            · exact absurd k hb.2
            · exact k
          · exact ih x (by simp [hx]) hx1
    · refine ⟨?_, ?_⟩
      · unfold tsplit
        rw [if_neg h0]
        cases hs : tsplit ts with
        | nil => intro x hx hx1; simp at hx; subst hx; cases hx1
        | cons z cs =>
          rw [hs] at ih
          obtain ⟨b, c⟩ := z
          cases b with
          | false =>
            intro x hx hx1
            rcases List.mem_cons.1 hx with rfl | hx
            · cases hx1
            · exact ih x (by simp [hx]) hx1
          | true =>
            intro x hx hx1
            rcases List.mem_cons.1 hx with rfl | hx
            · cases hx1
            · exact ih x hx hx1
      · intro t' us h _
        injection h with h1 h2
        subst h1
        subst h2
        unfold tsplit
        rw [if_neg h0]
        cases hs : tsplit ts with
        | nil => exact ⟨_, _, rfl⟩
        | cons z cs =>
          obtain ⟨b, c⟩ := z
          cases b <;> exact ⟨_, _, rfl⟩

/-- At sound pairs the search over bytes is the search over characters. -/
theorem gm_sound (ts : List Tm) (s : List Nat) (hg : ∀ t ∈ ts, goodTm t) (hs : scs s) (ha : asc s ∨ openStar ts = false) : gm (exs ts) (encs s) = gmR ts s := by
  unfold gm gmR
  rw [tsplit_exs]
  refine gmc_encs (tsplit ts) s (fun x hx => tsplit_all goodTm ts hg x hx) hs ?_
  rcases ha with h | h
  · exact .inl h
  · exact .inr (tsplit_heads ts hg h).1

end Go.Proofs.YtcoaoheakeodoaaDoor

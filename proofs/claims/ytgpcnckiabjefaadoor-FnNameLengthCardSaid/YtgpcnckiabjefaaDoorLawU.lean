/-
  Sound and decided pairs: what the code's match says there; the empty name. Conditions: none beyond those of each theorem.
-/
import Derived.Test.YtgpcnckiabjefaaDoorLawT
import Derived.Test.YtgpcnckiabjefaaDoorSoundC
namespace Go.Proofs.YtgpcnckiabjefaaDoor
open Go Go.Lib

theorem asc_runes : ∀ (l : Bs), ascB l = true → runes l = l.map UInt8.toNat ∧ asc (runes l)
  | [], _ => ⟨rfl, by simp [asc, runes_nil]⟩
  | b :: l, h => by
    unfold ascB at h
    rw [List.all_cons, Bool.and_eq_true] at h
    have hb : b.toNat < 128 := of_decide_eq_true h.1
    obtain ⟨i1, i2⟩ := asc_runes l h.2
    rw [runes_ascii b l hb]
    exact ⟨by rw [i1]; rfl, fun c hc => by
      rcases List.mem_cons.1 hc with rfl | hc
      · exact hb
      · exact i2 c hc⟩

/-- What is known of a sound pair. -/
theorem sound_gm {p n : Bs} (h : soundB p n = true) : ∃ ts, readR (runes p) = .good ts ∧ parse false p = some (exs ts) ∧ (∀ t ∈ ts, goodTm t) ∧ validD n = true ∧ bb p = false ∧ (asc (runes n) ∨ openStar ts = false) ∧ mm p n = gmR ts (runes n) := by
  unfold soundB at h
  rw [Bool.and_eq_true, Bool.and_eq_true] at h
  obtain ⟨hw, hv, ho⟩ := h
  obtain ⟨ts, hr, hp, hg, _, hb⟩ := wf_terms hw
  rw [hr] at ho
  have ho' : asc (runes n) ∨ openStar ts = false := by
    rw [Bool.or_eq_true] at ho
    rcases ho with h | h
    · exact .inl (asc_runes n h).2
    · exact .inr (by simpa using h)
  obtain ⟨s1, s2⟩ := valid_runes _ n (Nat.le_refl _) hv
  refine ⟨ts, hr, hp, hg, hv, hb, ho', ?_⟩
  rw [mm_of hp]
  have := gm_sound ts (runes n) hg s1 ho'
  rw [s2] at this
  exact this

/-- FnMatchSound. -/
theorem law_matchSound {p n : Bs} (h : soundB p n = true) (hm : mm p n = true) : ∀ ts, readR (runes p) = .good ts → mtr ts (runes n) = true := by
  obtain ⟨ts, hr, _, _, _, _, _, e⟩ := sound_gm h
  intro us hu
  rw [hr] at hu
  injection hu with hu
  subst hu
  rw [e] at hm
  exact gmR_mtr ts (runes n) hm

theorem starN_cons (t : Tm) (ts : List Tm) : starN (t :: ts) = (if t.kind = 0 then 1 else 0) + starN ts := by
  unfold starN
  by_cases h : t.kind = 0
  · simp [h]; omega
  · simp [h]
theorem mtr_len : ∀ (ts : List Tm) (s : List Nat), mtr ts s = true → ts.length ≤ s.length + starN ts ∧ (starN ts = 0 → s.length = ts.length)
  | [], s, h => by
    have : s = [] := by cases s with | nil => rfl | cons => cases h
    subst this
    simp
  | t :: ts, s, h => by
    unfold mtr at h
    rw [starN_cons]
    by_cases h0 : t.kind = 0
    · rw [if_pos h0] at h ⊢
      obtain ⟨pre, s', e, _, h'⟩ := (fitStar_iff (mtr ts) s).1 h
      obtain ⟨i1, i2⟩ := mtr_len ts s' h'
      rw [e, List.length_append, List.length_cons]
      exact ⟨by omega, by omega⟩
    · rw [if_neg h0] at h ⊢
      cases s with
      | nil => cases h
      | cons c s =>
        unfold fitOne at h
        rw [Bool.and_eq_true] at h
        obtain ⟨i1, i2⟩ := mtr_len ts s h.2
        simp only [List.length_cons]
        exact ⟨by omega, fun e => by rw [i2 (by omega)]⟩
/-- FnNameLength. -/
theorem law_nameLength {p n : Bs} (h : soundB p n = true) (hm : mm p n = true) : ∀ ts, readR (runes p) = .good ts → ts.length ≤ (runes n).length + starN ts ∧ (starN ts = 0 → (runes n).length = ts.length) := fun ts ht => mtr_len ts (runes n) (law_matchSound h hm ts ht)

/-! ### The empty name -/
theorem gmc_nil : ∀ (cs : List (Bool × List Tm)), gmc cs [] = cs.all fun x => x.2.isEmpty
  | [] => rfl
  | (b, c) :: cs => by
    unfold gmc
    rw [List.all_cons]
    cases c with
    | nil =>
      have : first b [] cs.isEmpty [] = some [] := first_hit b [] cs.isEmpty [] [] rfl (by simp)
      rw [this]
      simp only [List.isEmpty_nil, Bool.true_and]
      exact gmc_nil cs
    | cons t c =>
      have hs : steps (t :: c) (some []) = none := steps_none c
      have : first b (t :: c) cs.isEmpty [] = none := by unfold first; rw [hs]
      rw [this]
      rfl
theorem tsplit_st {t : Tm} (ts : List Tm) (h0 : t.kind = 0) : tsplit (t :: ts) = match tsplit ts with
      | (false, c) :: cs => (true, c) :: cs
      | (true, c) :: cs => (true, c) :: cs
      | [] => [(true, [])] := by
  conv => lhs; unfold tsplit
  rw [if_pos h0]
  rfl
theorem tsplit_empty : ∀ (ts : List Tm), ((tsplit ts).all fun x => x.2.isEmpty) = ts.all fun t => decide (t.kind = 0)
  | [] => rfl
  | t :: ts => by
    have ih := tsplit_empty ts
    rw [List.all_cons]
    by_cases h0 : t.kind = 0
    · rw [decide_eq_true h0, Bool.true_and, ← ih, tsplit_st ts h0]
      cases hs : tsplit ts with
      | nil => rfl
      | cons z cs =>
        obtain ⟨b, c⟩ := z
        cases b <;> rfl
    · rw [decide_eq_false h0, Bool.false_and, tsplit_ne ts h0]
      cases tsplit ts with
      | nil => rfl
      | cons z cs =>
        obtain ⟨b, c⟩ := z
        cases b <;> rfl
theorem gm_empty (ts : List Tm) : gm ts [] = ts.all fun t => decide (t.kind = 0) := by
  unfold gm
  rw [gmc_nil, tsplit_empty]
theorem exs_all (ts : List Tm) : ((exs ts).all fun t => decide (t.kind = 0)) = ts.all fun t => decide (t.kind = 0) := by
  induction ts with
  | nil => rfl
  | cons t ts ih =>
    rw [exs_cons, List.all_append, ih, List.all_cons]
    congr 1
    by_cases h0 : t.kind = 0
    · rw [ex_star t h0]
      simp
    · obtain ⟨h1, h2⟩ := ex_kind t h0
      rw [decide_eq_false h0]
      cases he : ex t with
      | nil => exact absurd he h1
      | cons x xs =>
        rw [List.all_cons, decide_eq_false (h2 x (by rw [he]; simp))]
        rfl
theorem starN_all (ts : List Tm) : (ts.all fun t => decide (t.kind = 0)) = decide (starN ts = ts.length) := by
  induction ts with
  | nil => rfl
  | cons t ts ih =>
    have hle := starN_le ts
    rw [List.all_cons, ih, starN_cons, List.length_cons]
    by_cases h0 : t.kind = 0
    · rw [decide_eq_true h0, if_pos h0, Bool.true_and]
      congr 1
      apply propext
      omega
    · rw [decide_eq_false h0, if_neg h0, Bool.false_and]
      symm
      apply decide_eq_false
      omega
/-- FnEmptyName. -/
theorem law_emptyName {p : Bs} {ts : List Tm} (hp : parse false p = some (exs ts)) : mm p [] = decide (starN ts = ts.length) := by
  rw [mm_of hp, gm_empty, exs_all, starN_all]

end Go.Proofs.YtgpcnckiabjefaaDoor

/-
  The greedy search at the head of a pattern; terms that never match; stars in a row. Conditions: none beyond those of each theorem.
-/
import Derived.Test.YtcoaoheakeodoaaDoorParseT
namespace Go.Proofs.YtcoaoheakeodoaaDoor
open Go Go.Lib

theorem gmc_false (c : List Tm) (cs : List (Bool × List Tm)) (s : Bs) : gmc ((false, c) :: cs) s = match steps c (some s) with
    | some t => if cs.isEmpty && !t.isEmpty then false else gmc cs t
    | none => false := by
  conv => lhs; unfold gmc
  cases h : steps c (some s) with
  | none => rw [first_miss false c cs.isEmpty s (fun t ht => by rw [h] at ht; cases ht)]; rfl
  | some t =>
    simp only
    by_cases hl : (cs.isEmpty && !t.isEmpty) = true
    · rw [first_miss false c cs.isEmpty s (fun u hu => by rw [h] at hu; injection hu with hu; subst hu; exact hl), if_pos hl]; rfl
    · rw [first_hit false c cs.isEmpty s t h (by simpa using hl), if_neg hl]

/-- A term that is no star, at the head. -/
theorem gm_cons (t : Tm) (ts : List Tm) (h : t.kind ≠ 0) (s : Bs) : gm (t :: ts) s = match step t s with
    | some s' => gm ts s'
    | none => false := by
  unfold gm
  rw [tsplit_ne ts h]
  have key : ∀ (c : List Tm), steps (t :: c) (some s) = match step t s with | some s' => steps c (some s') | none => none := by
    intro c
    show steps c (step t s) = _
    cases step t s with
    | none => exact steps_none c
    | some s' => rfl
  cases hs : tsplit ts with
  | nil =>
    simp only
    rw [gmc_false, key]
    cases step t s with
    | none => rfl
    | some s' =>
      show (if true && !s'.isEmpty then false else gmc [] s') = gmc [] s'
      cases s' <;> rfl
  | cons z cs =>
    obtain ⟨b, c⟩ := z
    cases b with
    | false =>
      simp only
      rw [gmc_false, key]
      cases step t s with
      | none => rfl
      | some s' => simp only; rw [gmc_false]
    | true =>
      simp only
      rw [gmc_false, key]
      cases step t s with
      | none => rfl
      | some s' => rfl

theorem gm_nil (s : Bs) : gm [] s = s.isEmpty := rfl

/-- Bytes that stand for themselves, at the head. -/
theorem gm_lits_append (l : Bs) (ts : List Tm) (s : Bs) : gm (lits l ++ ts) s = if l <+: s then gm ts (s.drop l.length) else false := by
  induction l generalizing s with
  | nil => simp [lits]
  | cons b l ih =>
    show gm (Tm.lit b :: (lits l ++ ts)) s = _
    rw [gm_cons _ _ (by show (4 : Nat) ≠ 0; decide)]
    cases s with
    | nil =>
      show false = _
      rw [if_neg (by simp)]
    | cons y s =>
      rw [step_lit]
      by_cases h : y = b
      · subst h
        rw [if_pos rfl]
        simp only
        rw [ih]
        simp
      · rw [if_neg h]
        simp only
        rw [if_neg]
        intro hp
        obtain ⟨r, hr⟩ := hp
        injection hr with h1 _
        exact h h1.symm

/-- A term that no name satisfies. -/
theorem gmc_never (x : Tm) (hx : ∀ s, step x s = none) : ∀ (cs : List (Bool × List Tm)), (∃ y ∈ cs, x ∈ y.2) → ∀ s, gmc cs s = false
  | [], h, _ => by obtain ⟨y, hy, _⟩ := h; cases hy
  | (b, c) :: cs, h, s => by
    have hn : x ∈ c → ∀ s, steps c s = none := by
      intro hm
      obtain ⟨a1, a2, rfl⟩ := List.append_of_mem hm
      intro s
      rw [steps_append]
      cases steps a1 s with
      | none => exact steps_none _
      | some u =>
        show steps a2 (step x u) = none
        rw [hx]
        exact steps_none _
    unfold gmc
    by_cases hm : x ∈ c
    · have : ∀ s, first b c cs.isEmpty s = none := by
        intro s
        induction s with
        | nil => unfold first; rw [hn hm]
        | cons y s ih =>
          unfold first
          rw [hn hm, ih]
          simp
      rw [this]
    · have h' : ∃ y ∈ cs, x ∈ y.2 := by
        obtain ⟨y, hy, hxy⟩ := h
        rcases List.mem_cons.1 hy with rfl | hy
        · exact absurd hxy hm
        · exact ⟨y, hy, hxy⟩
      split
      · exact gmc_never x hx cs h' _
      · rfl
theorem tsplit_mem (x : Tm) (h : x.kind ≠ 0) : ∀ (ts : List Tm), x ∈ ts → ∃ y ∈ tsplit ts, x ∈ y.2
  | [], hx => by cases hx
  | t :: ts, hx => by
    by_cases h0 : t.kind = 0
    · have hx' : x ∈ ts := by
        rcases List.mem_cons.1 hx with rfl | hx
        · exact absurd h0 h
        · exact hx
      obtain ⟨y, hy, hxy⟩ := tsplit_mem x h ts hx'
      unfold tsplit
      rw [if_pos h0]
      cases hs : tsplit ts with
      | nil => rw [hs] at hy; cases hy
      | cons z cs =>
        rw [hs] at hy
        obtain ⟨b, c⟩ := z
        have : ∃ y ∈ (true, c) :: cs, x ∈ y.2 := by
          rcases List.mem_cons.1 hy with rfl | hy
          · exact ⟨(true, c), by simp, hxy⟩
          · exact ⟨y, by simp [hy], hxy⟩
        cases b <;> exact this
    · rw [tsplit_ne ts h0]
      rcases List.mem_cons.1 hx with rfl | hx
      · cases hs : tsplit ts with
        | nil => exact ⟨_, List.mem_singleton.2 rfl, List.mem_singleton.2 rfl⟩
        | cons z cs =>
          obtain ⟨b, c⟩ := z
          cases b with
          | false => exact ⟨(false, x :: c), List.mem_cons_self .., List.mem_cons_self ..⟩
          | true => exact ⟨(false, [x]), List.mem_cons_self .., List.mem_singleton.2 rfl⟩
      · obtain ⟨y, hy, hxy⟩ := tsplit_mem x h ts hx
        cases hs : tsplit ts with
        | nil => rw [hs] at hy; cases hy
        | cons z cs =>
          rw [hs] at hy
          obtain ⟨b, c⟩ := z
          cases b with
          | false =>
            rcases List.mem_cons.1 hy with rfl | hy
            · exact ⟨(false, t :: c), List.mem_cons_self .., List.mem_cons_of_mem _ hxy⟩
            · exact ⟨y, List.mem_cons_of_mem _ hy, hxy⟩
          | true => exact ⟨y, List.mem_cons_of_mem _ hy, hxy⟩
theorem gm_never (x : Tm) (h : x.kind ≠ 0) (hx : ∀ s, step x s = none) (ts : List Tm) (hm : x ∈ ts) (s : Bs) : gm ts s = false := gmc_never x hx (tsplit ts) (tsplit_mem x h ts hm) s

/-- Two stars in a row are as one. -/
theorem tsplit_two : ∀ (ts us : List Tm), tsplit (ts ++ Tm.star :: Tm.star :: us) = tsplit (ts ++ Tm.star :: us)
  | [], us => tsplit_star2 us
  | t :: ts, us => by
    have ih := tsplit_two ts us
    show tsplit (t :: (ts ++ _)) = tsplit (t :: (ts ++ _))
    unfold tsplit
    rw [ih]
theorem gm_two (ts us : List Tm) (s : Bs) : gm (ts ++ Tm.star :: Tm.star :: us) s = gm (ts ++ Tm.star :: us) s := by
  unfold gm
  rw [tsplit_two]

/-- A star alone. -/
theorem gm_star (s : Bs) : gm [Tm.star] s = !s.contains 47 := by
  show (match first true [] true s with | some t => gmc [] t | none => false) = _
  rw [first_star_nil]
  cases h : s.contains 47 <;> rfl

/-- Question marks alone. -/
theorem gm_any_encs : ∀ (k : Nat) (cs : List Nat), scs cs → gm (List.replicate k Tm.any) (encs cs) = (decide (cs.length = k) && !cs.contains 47)
  | 0, cs, _ => by
    show (encs cs).isEmpty = _
    rw [isEmpty_encs]
    cases cs <;> simp
  | k + 1, [], _ => by
    have e : step Tm.any (encs []) = none := rfl
    rw [List.replicate_succ, gm_cons _ _ (by decide), e]
    simp
  | k + 1, c :: cs, h => by
    obtain ⟨h1, h2⟩ := scs_cons.1 h
    have ih := gm_any_encs k cs h2
    rw [List.replicate_succ, gm_cons _ _ (by decide)]
    have hs : step Tm.any (encs (c :: cs)) = (stepR Tm.any (c :: cs)).map encs := step_ex Tm.any (.inr (.inl ⟨rfl, rfl⟩)) (by decide) (c :: cs) h
    rw [hs, stepR_cons]
    unfold adm
    rw [if_pos rfl]
    by_cases hc : c = 47
    · subst hc
      simp
    · rw [if_pos (by simpa using hc)]
      simp only [Option.map_some]
      rw [ih]
      have e : ¬ 47 = c := fun x => hc x.symm
      simp [e]
theorem parse_anys : ∀ (k : Nat), parse false (List.replicate k 63) = some (List.replicate k Tm.any)
  | 0 => rfl
  | k + 1 => by
    rw [List.replicate_succ, parse_any, parse_anys k]
    rfl

end Go.Proofs.YtcoaoheakeodoaaDoor

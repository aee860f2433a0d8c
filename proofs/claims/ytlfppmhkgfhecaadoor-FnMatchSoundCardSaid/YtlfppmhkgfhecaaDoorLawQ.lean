/-
  Question marks as often as a number; patterns and names with slashes between them: plain laws. Conditions: none beyond those of each theorem.
-/
import Derived.Test.YtlfppmhkgfhecaaDoorLate
import Derived.Lib.Join
import Derived.Lib.JoinSame2
namespace Go.Proofs.YtlfppmhkgfhecaaDoor
open Go Go.Lib

theorem tms_nil : Tms [] [] := tms_parse (valid_encs [] (by intro c hc; cases hc)) (by intro t ht; cases ht) (by rfl)
theorem tms_slash : Tms [47] [Tm.chr' 47] := tms_parse (valid_encs [47] (by intro c hc; simp at hc; subst hc; exact .inl (by decide))) (by intro t ht; simp at ht; subst ht; exact .inr (.inr (.inr ⟨rfl, rfl, .inl (by decide)⟩))) (by rfl)

theorem tms_anys : ∀ (k : Nat), Tms (List.replicate k 63) (List.replicate k Tm.any)
  | 0 => tms_nil
  | k + 1 => tms_any.app (tms_anys k)
theorem mtr_anys : ∀ (k : Nat) (s : List Nat), mtr (List.replicate k Tm.any) s = true ↔ s.length = k ∧ 47 ∉ s
  | 0, s => by
    rw [List.replicate_zero, mtr_nil]
    constructor
    · rintro rfl; exact ⟨rfl, by simp⟩
    · rintro ⟨h, _⟩; exact List.length_eq_zero_iff.1 h
  | k + 1, s => by
    rw [List.replicate_succ, mtr_cons_one (by decide)]
    constructor
    · rintro ⟨c, s', rfl, ha, hm⟩
      obtain ⟨h1, h2⟩ := (mtr_anys k s').1 hm
      have hc : c ≠ 47 := by
        have ha' : decide (c ≠ 47) = true := ha
        simpa using ha'
      refine ⟨by rw [List.length_cons, h1], fun h => ?_⟩
      rcases List.mem_cons.1 h with h | h
      · exact hc h.symm
      · exact h2 h
    · rintro ⟨h1, h2⟩
      cases s with
      | nil => cases h1
      | cons c s =>
        refine ⟨c, s, rfl, ?_, (mtr_anys k s).2 ⟨by simpa using h1, fun h => h2 (List.mem_cons_of_mem _ h)⟩⟩
        show decide (c ≠ 47) = true
        exact decide_eq_true (fun e => h2 (by rw [e]; exact List.mem_cons_self))
theorem open_anys : ∀ (k : Nat), openStar (List.replicate k Tm.any) = false
  | 0 => rfl
  | 1 => rfl
  | k + 2 => by
    show openStar (Tm.any :: Tm.any :: List.replicate k Tm.any) = false
    unfold openStar
    rw [Bool.or_eq_false_iff]
    exact ⟨by decide, open_anys (k + 1)⟩
theorem slashClass_anys (k : Nat) : slashClass (List.replicate k Tm.any) = false := by
  unfold slashClass
  rw [List.any_eq_false]
  intro t ht
  rw [List.eq_of_mem_replicate ht]
  decide
/-- FnAnyMany. -/
theorem law_anyMany (k : Nat) {n : Bs} (hv : validD n = true) : mm (List.replicate k 63) n = (decide ((runes n).length = k) && !n.contains 47) ∧ bb (List.replicate k 63) = false := by
  have T := tms_anys k
  refine ⟨?_, bb_of T.all.1⟩
  rw [dcd_mm T hv ⟨.inr (open_anys k), .inl (slashClass_anys k)⟩, contains_runes hv, Bool.eq_iff_iff, mtr_anys]
  simp

/-! ### Slashes between -/
abbrev jn (xs : List Bs) : Bs := Lib.join xs [47]
theorem jn_cons (x y : Bs) (r : List Bs) : jn (x :: y :: r) = x ++ 47 :: jn (y :: r) := Lib.Pa.J_cons x y r
theorem jn_one (x : Bs) : jn [x] = x := Lib.join_one x [47]

theorem nsl_cons {t : Tm} {ts : List Tm} (h : noSlashT (t :: ts) = true) : ¬ (t.kind = 3 ∧ t.chr = 47) ∧ ¬ (t.kind = 2 ∧ adm t 47 = true) ∧ noSlashT ts = true := by
  unfold noSlashT at *
  rw [Bool.and_eq_true, decide_eq_true_iff] at *
  obtain ⟨h1, h2⟩ := h
  unfold slashN slashClass at *
  rw [List.any_cons, Bool.not_eq_true', Bool.or_eq_false_iff] at h2
  rw [List.filter_cons] at h1
  by_cases hk : t.kind = 3 ∧ t.chr = 47
  · rw [if_pos (decide_eq_true hk)] at h1
    cases h1
  · rw [if_neg (by rw [decide_eq_false hk]; decide)] at h1
    refine ⟨hk, fun h => ?_, h1, by rw [h2.2]; rfl⟩
    rw [decide_eq_true h.1, h.2] at h2
    cases h2.1
theorem mtr_no : ∀ (ts : List Tm) (s : List Nat), (∀ t ∈ ts, goodTm t) → noSlashT ts = true → mtr ts s = true → 47 ∉ s
  | [], s, _, _, hm => by
    rw [mtr_nil] at hm
    rw [hm]
    simp
  | t :: ts, s, hg, hn, hm => by
    obtain ⟨n3, n2, n0⟩ := nsl_cons hn
    have hg' : ∀ t ∈ ts, goodTm t := fun x hx => hg x (List.mem_cons_of_mem _ hx)
    by_cases h0 : t.kind = 0
    · obtain ⟨pre, s', rfl, hp, hm'⟩ := (mtr_cons_star h0 ts s).1 hm
      intro h
      rcases List.mem_append.1 h with h | h
      · exact hp h
      · exact mtr_no ts s' hg' n0 hm' h
    · obtain ⟨c, s', rfl, ha, hm'⟩ := (mtr_cons_one h0 ts s).1 hm
      intro h
      rcases List.mem_cons.1 h with h | h
      · subst h
        have hk := good_kind (hg t List.mem_cons_self)
        by_cases k1 : t.kind = 1
        · unfold adm at ha
          rw [if_pos k1] at ha
          simp at ha
        · by_cases k3 : t.kind = 3
          · unfold adm at ha
            rw [if_neg k1, if_pos k3] at ha
            exact n3 ⟨k3, by simpa using (of_decide_eq_true ha).symm⟩
          · exact n2 ⟨by omega, ha⟩
      · exact mtr_no ts s' hg' n0 hm' h

theorem valid_cut : ∀ (s : List Nat) (a b : Bs), scs s → encs s = a ++ 47 :: b → ∃ s1 s2, s = s1 ++ 47 :: s2 ∧ encs s1 = a ∧ encs s2 = b
  | [], a, b, _, h => by
    rw [encs_nil] at h
    cases a <;> cases h
  | c :: s, a, b, hs, h => by
    have hs' : scs s := fun x hx => hs x (List.mem_cons_of_mem _ hx)
    rw [encs_cons] at h
    by_cases hc : c = 47
    · subst hc
      have e47 : enc 47 = [47] := rfl
      rw [e47] at h
      cases a with
      | nil =>
        injection h with _ h
        exact ⟨[], s, rfl, rfl, h⟩
      | cons x a =>
        injection h with h1 h
        obtain ⟨s1, s2, e, e1, e2⟩ := valid_cut s a b hs' h
        exact ⟨47 :: s1, s2, by rw [e]; rfl, by rw [encs_cons, e47, e1, ← h1]; rfl, e2⟩
    · have hno : (47 : UInt8) ∉ enc c := by
        have := enc_count (c := c)
        rw [if_neg hc] at this
        exact List.count_eq_zero.1 this
      rcases List.append_eq_append_iff.1 h with ⟨x, e1, e2⟩ | ⟨x, e1, e2⟩
      · obtain ⟨s1, s2, e, e3, e4⟩ := valid_cut s x b hs' e2
        exact ⟨c :: s1, s2, by rw [e]; rfl, by rw [encs_cons, e3, e1], e4⟩
      · cases x with
        | nil =>
          rw [List.append_nil] at e1
          rw [List.nil_append] at e2
          obtain ⟨s1, s2, e, e3, e4⟩ := valid_cut s [] b hs' (by rw [← e2]; rfl)
          exact ⟨c :: s1, s2, by rw [e]; rfl, by rw [encs_cons, e3, e1, List.append_nil], e4⟩
        | cons y x =>
          exfalso
          injection e2 with e2 _
          exact hno (by rw [e1, ← e2]; simp)
theorem valid_parts {a b : Bs} (hv : validD (a ++ 47 :: b) = true) : validD a = true ∧ validD b = true ∧ runes (a ++ 47 :: b) = runes a ++ 47 :: runes b := by
  obtain ⟨s, hs, e⟩ := (valid_iff _).1 hv
  obtain ⟨s1, s2, rfl, e1, e2⟩ := valid_cut s a b hs e.symm
  obtain ⟨h1, h2⟩ := scs_append.1 hs
  have h3 : scs s2 := fun x hx => h2 x (List.mem_cons_of_mem _ hx)
  refine ⟨by rw [← e1]; exact valid_encs _ h1, by rw [← e2]; exact valid_encs _ h3, ?_⟩
  rw [e, runes_encs _ hs, ← e1, ← e2, runes_encs _ h1, runes_encs _ h3]

/-- One part more, ahead of others. -/
theorem parts_step {p n P N : Bs} {ts TS : List Tm} (T : Tms p ts) (hn : noSlashT ts = true) (h7 : 47 ∉ n) (T2 : Tms P TS) (hv : validD (n ++ 47 :: N) = true) (D : Dcd (ts ++ (Tm.chr' 47 :: TS)) (runes (n ++ 47 :: N))) :
    mm (p ++ 47 :: P) (n ++ 47 :: N) = (mm p n && mm P N) ∧ validD N = true ∧ Dcd TS (runes N) := by
  obtain ⟨v1, v2, hr⟩ := valid_parts hv
  have TT : Tms (p ++ 47 :: P) (ts ++ (Tm.chr' 47 :: TS)) := T.app (tms_slash.app T2)
  have D1 : Dcd ts (runes n) := D.left (fun c hc => by rw [hr]; exact List.mem_append_left _ hc)
  have D2' : Dcd ([Tm.chr' 47] ++ TS) (runes N) := D.right (fun c hc => by rw [hr]; exact List.mem_append_right _ (List.mem_cons_of_mem _ hc))
  have D2 : Dcd TS (runes N) := D2'.right (fun c hc => hc)
  refine ⟨?_, v2, D2⟩
  have h7r : 47 ∉ runes n := by
    have hc := contains_runes v1
    have hc2 : n.contains 47 = false := by simpa using h7
    rw [hc2] at hc
    simpa using hc.symm
  rw [dcd_mm TT hv D, dcd_mm T v1 D1, dcd_mm T2 v2 D2, hr, Bool.eq_iff_iff, Bool.and_eq_true, mtr_append]
  constructor
  · rintro ⟨a, b, e, h1, h2⟩
    obtain ⟨c, b', rfl, hc, h2⟩ := (mtr_cons_one (by show 3 ≠ 0; decide) TS b).1 h2
    have hc47 : c = 47 := by
      have hc' : decide (c = 47) = true := hc
      simpa using hc'
    subst hc47
    have ha := mtr_no ts a T.all.2.1 hn h1
    have key : ∀ (x y a b : List Nat), 47 ∉ x → 47 ∉ a → x ++ 47 :: y = a ++ 47 :: b → x = a ∧ y = b := by
      intro x
      induction x with
      | nil =>
        intro y a b _ h2 e
        cases a with
        | nil => injection e with _ e; exact ⟨rfl, e⟩
        | cons c a => injection e with e _; exact absurd (by rw [← e]; exact List.mem_cons_self) h2
      | cons d x ih =>
        intro y a b h1 h2 e
        cases a with
        | nil => injection e with e _; exact absurd (by rw [e]; exact List.mem_cons_self) h1
        | cons c a =>
          injection e with e1 e2
          obtain ⟨r1, r2⟩ := ih y a b (fun h => h1 (List.mem_cons_of_mem _ h)) (fun h => h2 (List.mem_cons_of_mem _ h)) e2
          exact ⟨by rw [e1, r1], r2⟩
    obtain ⟨r1, r2⟩ := key _ _ _ _ h7r ha e
    rw [r1, r2]
    exact ⟨h1, h2⟩
  · rintro ⟨h1, h2⟩
    exact ⟨runes n, 47 :: runes N, rfl, h1, (mtr_cons_one (by show 3 ≠ 0; decide) TS _).2 ⟨47, runes N, rfl, by show decide (47 = 47) = true; decide, h2⟩⟩

/-- Patterns that match no slash, and names without slashes. -/
def Pieces (L : List (Bs × Bs)) : Prop := ∀ x ∈ L, (∃ ts, Tms x.1 ts ∧ noSlashT ts = true) ∧ 47 ∉ x.2
abbrev ppat (L : List (Bs × Bs)) : Bs := jn (L.map (·.1))
abbrev pname (L : List (Bs × Bs)) : Bs := jn (L.map (·.2))
def pwant (L : List (Bs × Bs)) : Bool := L.all fun x => mm x.1 x.2
theorem pwant_snoc (L : List (Bs × Bs)) (x : Bs × Bs) : pwant (L ++ [x]) = (pwant L && mm x.1 x.2) := by simp [pwant]

theorem nsl_slash {ts us : List Tm} (h : noSlashT ts = true) : slashClass (ts ++ (Tm.chr' 47 :: us)) = slashClass us ∧ slashN (ts ++ (Tm.chr' 47 :: us)) = 1 + slashN us := by
  unfold noSlashT at h
  rw [Bool.and_eq_true, decide_eq_true_iff] at h
  have h2 : slashClass ts = false := by simpa using h.2
  constructor
  · rw [slashClass_app, h2, Bool.false_or]
    rfl
  · unfold slashN at *
    rw [List.filter_append, List.length_append, h.1, Nat.zero_add, List.filter_cons_of_pos (by rfl), List.length_cons]
    omega
theorem count_no {n : Bs} (h : 47 ∉ n) : n.count 47 = 0 := List.count_eq_zero.2 h
theorem pieces_all : ∀ (L : List (Bs × Bs)), Pieces L → ∃ TS, Tms (ppat L) TS ∧ slashClass TS = false ∧ slashN TS = (pname L).count 47 ∧ (validD (pname L) = true → Dcd TS (runes (pname L)) → mm (ppat L) (pname L) = pwant L)
  | [], _ => ⟨[], tms_nil, rfl, rfl, fun hv D => by
    have h := dcd_mm tms_nil hv D
    have e : pname [] = [] := rfl
    rw [e] at h
    exact h⟩
  | [x], h => by
    obtain ⟨⟨ts, T, hn⟩, h7⟩ := h x (by simp)
    have e1 : ppat [x] = x.1 := jn_one x.1
    have e2 : pname [x] = x.2 := jn_one x.2
    rw [e1, e2]
    have hn' := hn
    unfold noSlashT at hn'
    rw [Bool.and_eq_true, decide_eq_true_iff] at hn'
    exact ⟨ts, T, by simpa using hn'.2, by rw [hn'.1, count_no h7], fun _ _ => by simp [pwant]⟩
  | x :: y :: L, h => by
    obtain ⟨⟨ts, T, hn⟩, h7⟩ := h x (by simp)
    obtain ⟨TS, T2, hc, hs, hm⟩ := pieces_all (y :: L) (fun z hz => h z (List.mem_cons_of_mem _ hz))
    have e1 : ppat (x :: y :: L) = x.1 ++ 47 :: ppat (y :: L) := jn_cons _ _ _
    have e2 : pname (x :: y :: L) = x.2 ++ 47 :: pname (y :: L) := jn_cons _ _ _
    rw [e1, e2]
    obtain ⟨s1, s2⟩ := nsl_slash (us := TS) hn
    refine ⟨_, T.app (tms_slash.app T2), by rw [← hc]; exact s1, ?_, fun hv D => ?_⟩
    · have : slashN (ts ++ ([Tm.chr' 47] ++ TS)) = 1 + slashN TS := s2
      rw [this, hs, List.count_append, count_no h7, List.count_cons_self]
      omega
    · obtain ⟨m1, m2, m3⟩ := parts_step T hn h7 T2 hv D
      rw [m1, hm m2 m3]
      rfl
/-- FnParts. -/
theorem law_parts {L : List (Bs × Bs)} (h : Pieces L) (hd : decdB (ppat L) (pname L) = true) : mm (ppat L) (pname L) = pwant L ∧ mm (ppat L) (pname L ++ [47, 97]) = false ∧ mm (ppat L ++ [47, 42]) (pname L) = false := by
  obtain ⟨TS, T, hc, hs, hm⟩ := pieces_all L h
  obtain ⟨hv, D⟩ := decd_dcd T hd
  refine ⟨hm hv D, ?_, ?_⟩
  · cases hb : mm (ppat L) (pname L ++ [47, 97]) with
    | false => rfl
    | true =>
      have := law_slashCount T hc hb
      rw [hs, List.count_append] at this
      have e : ([47, 97] : Bs).count 47 = 1 := by decide
      omega
  · cases hb : mm (ppat L ++ [47, 42]) (pname L) with
    | false => rfl
    | true =>
      have T3 : Tms (ppat L ++ [47, 42]) (TS ++ ([Tm.chr' 47] ++ [Tm.star])) := T.app (tms_slash.app tms_star)
      have hc3 : slashClass (TS ++ ([Tm.chr' 47] ++ [Tm.star])) = false := by
        rw [slashClass_app, hc]
        rfl
      have := law_slashCount T3 hc3 hb
      have e : slashN (TS ++ ([Tm.chr' 47] ++ [Tm.star])) = slashN TS + 1 := by
        unfold slashN
        rw [List.filter_append, List.length_append]
        rfl
      omega
theorem wf_open : wfB [91] = false := by decide

/-! ### The rows of spec.fits -/
/-- A term, and then what fits behind it. -/
def fitT (t : Tm) (f : List Nat → Bool) (s : List Nat) : Bool := if t.kind = 0 then fitStar f s else fitOne t f s
theorem mtr_fitT (t : Tm) (ts : List Tm) : mtr (t :: ts) = fitT t (mtr ts) := by
  funext s
  rfl
theorem fitT_end (t : Tm) (f : List Nat → Bool) : fitT t f [] = (if t.kind = 0 then f [] else false) := by unfold fitT; split <;> rfl
theorem fitT_star {t : Tm} (h : t.kind = 0) (f : List Nat → Bool) (c : Nat) (s : List Nat) : fitT t f (c :: s) = (f (c :: s) || (decide (c ≠ 47) && fitT t f s)) := by
  unfold fitT
  rw [if_pos h, if_pos h]
  rfl
theorem fitT_one {t : Tm} (h : t.kind ≠ 0) (f : List Nat → Bool) (c : Nat) (s : List Nat) : fitT t f (c :: s) = (adm t c && f s) := by
  unfold fitT
  rw [if_neg h]
  rfl

end Go.Proofs.YtlfppmhkgfhecaaDoor

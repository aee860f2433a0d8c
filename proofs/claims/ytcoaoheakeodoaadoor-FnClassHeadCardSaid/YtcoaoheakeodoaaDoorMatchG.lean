/-
  Plain laws: path.Match as it goes over chunks of bytes is the greedy match of the pattern's terms: no program. Conditions: none beyond those of each theorem.
-/
import Derived.Test.YtcoaoheakeodoaaDoorMatchB
namespace Go.Proofs.YtcoaoheakeodoaaDoor
open Go Go.Lib

/-- The first place at which a chunk matches, behind a star or not; the last chunk must end the name. -/
def first (star : Bool) (ts : List Tm) (last : Bool) : Bs → Option Bs
  | [] => match steps ts (some []) with
    | some t => if last && !t.isEmpty then none else some t
    | none => none
  | b :: s => match steps ts (some (b :: s)) with
    | some t => if last && !t.isEmpty then (if star && b != 47 then first star ts last s else none) else some t
    | none => if star && b != 47 then first star ts last s else none

/-- The greedy match over chunks of terms. -/
def gmc : List (Bool × List Tm) → Bs → Bool
  | [], s => s.isEmpty
  | (star, ts) :: cs, s => match first star ts cs.isEmpty s with
    | some t => gmc cs t
    | none => false

/-- The chunks of a pattern, as the code cuts it. -/
def chunksF : Nat → Bs → List (Bool × Bs)
  | 0, _ => []
  | f + 1, p => if p = [] then [] else
    (p.head? == some 42, (p.dropWhile (· == 42)).take (scanEnd (p.dropWhile (· == 42)) false)) :: chunksF f ((p.dropWhile (· == 42)).drop (scanEnd (p.dropWhile (· == 42)) false))

/-- What is left behind the first chunk. -/
def restOf (p : Bs) : Bs := (p.dropWhile (· == 42)).drop (scanEnd (p.dropWhile (· == 42)) false)
def chunkOf (p : Bs) : Bs := (p.dropWhile (· == 42)).take (scanEnd (p.dropWhile (· == 42)) false)

theorem dropStar_cases (p : Bs) (h : p ≠ []) : (p.head? = some 42 ∧ (p.dropWhile (· == 42)).length < p.length) ∨ (p.head? ≠ some 42 ∧ p.dropWhile (· == 42) = p) := by
  cases p with
  | nil => exact absurd rfl h
  | cons b t =>
    by_cases hb : b = 42
    · left
      refine ⟨by simp [hb], ?_⟩
      rw [List.dropWhile_cons_of_pos (by simpa using hb)]
      have := (List.dropWhile_sublist (· == (42 : UInt8)) (l := t)).length_le
      simp only [List.length_cons]
      omega
    · right
      exact ⟨by simpa using hb, List.dropWhile_cons_of_neg (by simpa using hb)⟩

theorem scan_pos' {c : Bs} (h : c ≠ []) (h42 : c.head? ≠ some 42) : 1 ≤ scanEnd c false := by
  cases c with
  | nil => exact absurd rfl h
  | cons b t =>
    have hb : b ≠ 42 := by simpa using h42
    unfold scanEnd
    split
    · cases t <;> simp
    · split
      · omega
      · split
        · omega
        · first | omega | (rw [if_neg hb]; omega)

theorem restOf_lt (p : Bs) (h : p ≠ []) : (restOf p).length < p.length := by
  unfold restOf
  rw [List.length_drop]
  rcases dropStar_cases p h with ⟨_, h2⟩ | ⟨h1, h2⟩
  · omega
  · rw [h2]
    have := scan_pos' h h1
    have := List.length_pos_iff.2 h
    omega

theorem chunksF_fuel : ∀ (f g : Nat) (p : Bs), p.length ≤ f → p.length ≤ g → chunksF f p = chunksF g p
  | 0, 0, _, _, _ => rfl
  | 0, g + 1, p, h, _ => by
    have : p = [] := List.eq_nil_of_length_eq_zero (by omega)
    subst this
    rfl
  | f + 1, 0, p, _, h => by
    have : p = [] := List.eq_nil_of_length_eq_zero (by omega)
    subst this
    rfl
  | f + 1, g + 1, p, hf, hg => by
    unfold chunksF
    split
    · rfl
    · rename_i hp
      have := restOf_lt p hp
      unfold restOf at this
      rw [chunksF_fuel f g _ (by omega) (by omega)]

def chunks (p : Bs) : List (Bool × Bs) := chunksF p.length p
theorem chunks_nil : chunks [] = [] := rfl
theorem chunks_cons (p : Bs) (h : p ≠ []) : chunks p = (p.head? == some 42, chunkOf p) :: chunks (restOf p) := by
  have hlt := restOf_lt p h
  have hp := List.length_pos_iff.2 h
  unfold chunks
  obtain ⟨n, hn⟩ : ∃ n, p.length = n + 1 := ⟨p.length - 1, by omega⟩
  conv => lhs; rw [hn]; unfold chunksF
  rw [if_neg h]
  have e : chunksF n (restOf p) = chunksF (restOf p).length (restOf p) := chunksF_fuel _ _ _ (by omega) (Nat.le_refl _)
  unfold restOf at e ⊢
  rw [e]
  rfl
theorem chunks_empty (p : Bs) : (chunks p).isEmpty = p.isEmpty := by
  by_cases h : p = []
  · subst h; rfl
  · rw [chunks_cons p h]
    cases p with
    | nil => exact absurd rfl h
    | cons b t => rfl

/-- path.Match, as it goes. none: malformed. -/
def matchC : List (Bool × Bs) → Bs → Option Bool
  | [], s => some s.isEmpty
  | (star, c) :: cs, s => match parse true c with
    | none => none
    | some ts => match first star ts cs.isEmpty s with
      | some t => matchC cs t
      | none => if cs.all (fun x => (parse true x.2).isSome) then some false else none

def matchF (p s : Bs) : Option Bool := matchC (chunks p) s

/-- The terms of chunks; none: one is malformed. -/
def termsC : List (Bool × Bs) → Option (List (Bool × List Tm))
  | [] => some []
  | (star, c) :: cs => match parse true c with
    | none => none
    | some ts => (termsC cs).map fun x => (star, ts) :: x

theorem termsC_some : ∀ (cs : List (Bool × Bs)), (termsC cs).isSome = cs.all (fun x => (parse true x.2).isSome)
  | [] => rfl
  | (star, c) :: cs => by
    have ih := termsC_some cs
    unfold termsC
    rw [List.all_cons]
    cases parse true c with
    | none => rfl
    | some ts => simp only [Option.isSome_map, Option.isSome_some, Bool.true_and]; exact ih
theorem termsC_empty : ∀ (cs : List (Bool × Bs)) (x : List (Bool × List Tm)), termsC cs = some x → x.isEmpty = cs.isEmpty
  | [], x, h => by injection h with h; subst h; rfl
  | (star, c) :: cs, x, h => by
    unfold termsC at h
    cases hp : parse true c with
    | none => rw [hp] at h; cases h
    | some ts =>
      rw [hp] at h
      simp only at h
      cases ht : termsC cs with
      | none => rw [ht] at h; cases h
      | some y => rw [ht] at h; injection h with h; subst h; rfl

theorem matchC_eq : ∀ (cs : List (Bool × Bs)) (s : Bs), matchC cs s = (termsC cs).map fun x => gmc x s
  | [], s => rfl
  | (star, c) :: cs, s => by
    unfold matchC termsC
    cases hp : parse true c with
    | none => rfl
    | some ts =>
      simp only
      have ih := matchC_eq cs
      cases hf : first star ts cs.isEmpty s with
      | some t =>
        simp only
        rw [ih t]
        cases ht : termsC cs with
        | none => rfl
        | some x =>
          simp only [Option.map_some]
          have he := termsC_empty cs x ht
          congr 1
          conv => rhs; unfold gmc
          rw [he, hf]
      | none =>
        simp only
        rw [← termsC_some]
        cases ht : termsC cs with
        | none => rfl
        | some x =>
          simp only [Option.map_some, Option.isSome_some, if_true]
          have he := termsC_empty cs x ht
          congr 1
          conv => rhs; unfold gmc
          rw [he, hf]

/-! ### The chunks of terms -/

def isStar (t : Tm) : Bool := t.kind == 0

/-- Terms cut at their stars. -/
def tsplit : List Tm → List (Bool × List Tm)
  | [] => []
  | t :: ts => if t.kind = 0 then
      match tsplit ts with
      | (false, c) :: cs => (true, c) :: cs
      | (true, c) :: cs => (true, c) :: cs
      | [] => [(true, [])]
    else
      match tsplit ts with
      | (false, c) :: cs => (false, t :: c) :: cs
      | (true, c) :: cs => (false, [t]) :: (true, c) :: cs
      | [] => [(false, [t])]

def gm (ts : List Tm) (s : Bs) : Bool := gmc (tsplit ts) s

theorem tsplit_plain : ∀ (ts : List Tm) (us : List Tm), (∀ t ∈ ts, t.kind ≠ 0) → (us = [] ∨ ∃ u us', us = u :: us' ∧ u.kind = 0) → ts ≠ [] → tsplit (ts ++ us) = (false, ts) :: tsplit us
  | [], _, _, _, h => absurd rfl h
  | [t], us, hk, hu, _ => by
    have ht := hk t (by simp)
    show tsplit (t :: us) = _
    conv => lhs; unfold tsplit
    rw [if_neg ht]
    rcases hu with rfl | ⟨u, us', rfl, hu⟩
    · rfl
    · have : ∃ c cs, tsplit (u :: us') = (true, c) :: cs := by
        unfold tsplit
        rw [if_pos hu]
        split <;> exact ⟨_, _, rfl⟩
      obtain ⟨c, cs, e⟩ := this
      rw [e]
  | t :: t' :: ts, us, hk, hu, _ => by
    have ih := tsplit_plain (t' :: ts) us (fun x hx => hk x (by simp [hx])) hu (by simp)
    rw [List.cons_append]
    conv => lhs; unfold tsplit
    rw [if_neg (hk t (by simp)), ih]

theorem tsplit_star (us : List Tm) : ∃ c cs, tsplit (Tm.star :: us) = (true, c) :: cs := by
  unfold tsplit
  rw [if_pos rfl]
  split <;> exact ⟨_, _, rfl⟩

theorem tsplit_star2 (us : List Tm) : tsplit (Tm.star :: Tm.star :: us) = tsplit (Tm.star :: us) := by
  conv => lhs; unfold tsplit
  rw [if_pos rfl]
  obtain ⟨c, cs, e⟩ := tsplit_star us
  rw [e]

theorem parse_true_kind : ∀ (n : Nat) (p : Bs), p.length ≤ n → ∀ ts, parse true p = some ts → ∀ t ∈ ts, t.kind ≠ 0
  | _, [], _, ts, h => by injection h with h; subst h; simp
  | 0, _ :: _, h, _, _ => by simp at h
  | n + 1, b :: t, hn, ts, h => by
    have hn' : t.length ≤ n := by simpa using hn
    have key : ∀ (x : Tm) (u : Bs), x.kind ≠ 0 → u.length ≤ n → (parse true u).map (fun y => x :: y) = some ts → ∀ t ∈ ts, t.kind ≠ 0 := by
      intro x u hx hu h
      cases hp : parse true u with
      | none => rw [hp] at h; cases h
      | some y =>
        rw [hp] at h
        injection h with h
        subst h
        intro t ht
        rcases List.mem_cons.1 ht with rfl | ht
        · exact hx
        · exact parse_true_kind n u hu y hp t ht
    rw [parse_cons] at h
    split at h
    · cases hr : ranges (classHead t).2 0 with
      | none => rw [hr] at h; cases h
      | some x =>
        obtain ⟨rs, r⟩ := x
        have lr := ranges_lt _ _ _ (Nat.le_refl _) _ hr
        have := classHead_le t
        rw [hr] at h
        simp only at h lr
        exact key _ r (by show (2 : Nat) ≠ 0; decide) (by omega) h
    · split at h
      · exact key _ t (by decide) hn' h
      · split at h
        · cases t with
          | nil => cases h
          | cons c t' =>
            simp only at h
            exact key _ t' (by show (4 : Nat) ≠ 0; decide) (by simp at hn'; omega) h
        · split at h
          · rename_i hh; cases hh.2
          · exact key _ t (by show (4 : Nat) ≠ 0; decide) hn' h

theorem parse_star (t : Bs) : parse false (42 :: t) = (parse false t).map fun x => Tm.star :: x := by
  rw [parse_cons, if_neg (by decide), if_neg (by decide), if_neg (by decide), if_pos ⟨rfl, rfl⟩]

/-- A run of stars before a pattern. -/
theorem parse_stars : ∀ (p : Bs), p.head? = some 42 → ∃ k, parse false p = (parse false (p.dropWhile (· == 42))).map fun x => List.replicate (k + 1) Tm.star ++ x
  | [], h => by cases h
  | b :: t, h => by
    have hb : b = 42 := by simpa using h
    subst hb
    rw [parse_star, List.dropWhile_cons_of_pos (by rfl)]
    by_cases ht : t.head? = some 42
    · obtain ⟨k, hk⟩ := parse_stars t ht
      refine ⟨k + 1, ?_⟩
      rw [hk, Option.map_map]
      rfl
    · refine ⟨0, ?_⟩
      have : t.dropWhile (· == 42) = t := by
        cases t with
        | nil => rfl
        | cons c t' => exact List.dropWhile_cons_of_neg (by simpa using ht)
      rw [this]
      rfl

theorem tsplit_stars (k : Nat) (us : List Tm) : tsplit (List.replicate (k + 1) Tm.star ++ us) = tsplit (Tm.star :: us) := by
  induction k with
  | zero => rfl
  | succ k ih =>
    rw [List.replicate_succ, List.cons_append]
    rw [List.replicate_succ, List.cons_append] at ih ⊢
    rw [tsplit_star2, ih]

/-- What is behind the first chunk begins with a star, if there is anything. -/
theorem rest_head : ∀ (n : Nat) (p : Bs) (i : Bool), p.length ≤ n → p.drop (scanEnd p i) = [] ∨ (p.drop (scanEnd p i)).head? = some 42
  | _, [], _, _ => .inl rfl
  | 0, _ :: _, _, h => by simp at h
  | n + 1, b :: t, i, h => by
    have hn : t.length ≤ n := by simpa using h
    conv => congr <;> unfold scanEnd
    split
    · cases t with
      | nil => exact .inl rfl
      | cons c t' =>
        simp only [List.drop_succ_cons]
        exact rest_head n t' i (by simp at hn; omega)
    · split
      · exact rest_head n t true hn
      · split
        · exact rest_head n t false hn
        · split
          · rename_i h42
            split
            · exact rest_head n t i hn
            · right; simp [h42]
          · exact rest_head n t i hn

theorem termsC_parse : ∀ (n : Nat) (p : Bs), p.length ≤ n → termsC (chunks p) = (parse false p).map tsplit
  | n, p, hn => by
    by_cases hp : p = []
    · subst hp; rfl
    · have hlt := restOf_lt p hp
      have ih : termsC (chunks (restOf p)) = (parse false (restOf p)).map tsplit := match n, hn with
        | 0, hn => absurd (List.length_pos_iff.2 hp) (by omega)
        | n + 1, hn => termsC_parse n (restOf p) (by omega)
      rw [chunks_cons p hp]
      unfold termsC
      have sp := scan_parse _ (p.dropWhile (· == 42)) (Nat.le_refl _)
      have hrest := rest_head _ (p.dropWhile (· == 42)) false (Nat.le_refl _)
      change parse false (p.dropWhile (· == 42)) = (parse true (chunkOf p)).bind fun ts => (parse false (restOf p)).map fun us => ts ++ us at sp
      change restOf p = [] ∨ (restOf p).head? = some 42 at hrest
      -- the terms behind the first chunk begin with a star
      have hus : ∀ us, parse false (restOf p) = some us → us = [] ∨ ∃ u us', us = u :: us' ∧ u.kind = 0 := by
        intro us hu
        rcases hrest with h0 | h0
        · rw [h0] at hu; injection hu with hu; exact .inl hu.symm
        · obtain ⟨k, hk⟩ := parse_stars _ h0
          rw [hk] at hu
          cases hq : parse false ((restOf p).dropWhile (· == 42)) with
          | none => rw [hq] at hu; cases hu
          | some y =>
            rw [hq] at hu
            injection hu with hu
            exact .inr ⟨Tm.star, List.replicate k Tm.star ++ y, by rw [← hu, List.replicate_succ]; rfl, rfl⟩
      cases hc : parse true (chunkOf p) with
      | none =>
        rw [hc] at sp
        simp only
        rcases dropStar_cases p hp with ⟨h1, _⟩ | ⟨h1, h2⟩
        · obtain ⟨k, hk⟩ := parse_stars p h1
          rw [hk, sp]
          rfl
        · rw [h2] at sp
          rw [sp]
          rfl
      | some ts =>
        rw [hc] at sp
        simp only [Option.bind_some] at sp ⊢
        rw [ih]
        have hk := parse_true_kind _ _ (Nat.le_refl _) ts hc
        rcases dropStar_cases p hp with ⟨h1, _⟩ | ⟨h1, h2⟩
        · obtain ⟨k, hkk⟩ := parse_stars p h1
          rw [hkk, sp, h1]
          cases hr : parse false (restOf p) with
          | none => rfl
          | some us =>
            simp only [Option.map_some]
            rw [tsplit_stars]
            have hh := hus us hr
            congr 1
            conv => rhs; unfold tsplit
            rw [if_pos rfl]
            by_cases ht : ts = []
            · -- an empty chunk behind a star: nothing is behind it
              subst ht
              have hce : chunkOf p = [] := by
                cases hcp : chunkOf p with
                | nil => rfl
                | cons b t =>
                  exfalso
                  rw [hcp] at hc
                  rw [parse_cons] at hc
                  repeat' split at hc
                  all_goals (first | (cases hc; done) | (cases hq : parse true _ <;> rw [hq] at hc <;> cases hc))
              have hq : p.dropWhile (· == 42) = [] := by
                by_cases hq : p.dropWhile (· == 42) = []
                · exact hq
                · exfalso
                  have hh42 : (p.dropWhile (· == 42)).head? ≠ some 42 := by
                    have := List.head?_dropWhile_not (fun x : UInt8 => x == 42) p
                    intro e
                    rw [e] at this
                    simp at this
                  have := scan_pos' hq hh42
                  unfold chunkOf at hce
                  have hl := congrArg List.length hce
                  rw [List.length_take, List.length_nil] at hl
                  have := List.length_pos_iff.2 hq
                  omega
              have hre : restOf p = [] := by unfold restOf; rw [hq]; rfl
              rw [hre] at hr
              injection hr with hr
              subst hr
              rfl
            · rw [tsplit_plain ts us hk hh ht]
              rfl
        · rw [h2] at sp
          rw [sp]
          have hst : (p.head? == some 42) = false := by simpa using h1
          rw [hst]
          have hcne : ts ≠ [] := by
            intro e
            subst e
            have : chunkOf p ≠ [] := by
              unfold chunkOf
              rw [h2]
              have := scan_pos' hp h1
              intro e
              have hl := congrArg List.length e
              rw [List.length_take, List.length_nil] at hl
              have := List.length_pos_iff.2 hp
              omega
            cases hcp : chunkOf p with
            | nil => exact this hcp
            | cons b t =>
              rw [hcp] at hc
              rw [parse_cons] at hc
              repeat' split at hc
              all_goals (first | (cases hc; done) | (cases hq : parse true _ <;> rw [hq] at hc <;> cases hc))
          cases hr : parse false (restOf p) with
          | none => rfl
          | some us =>
            simp only [Option.map_some]
            rw [tsplit_plain ts us hk (hus us hr) hcne]

/-- path.Match, for every pattern and every name: malformed where the terms cannot be read; else the greedy match of the terms. -/
theorem matchF_eq (p s : Bs) : matchF p s = (parse false p).map fun ts => gm ts s := by
  unfold matchF
  rw [matchC_eq, termsC_parse _ p (Nat.le_refl _), Option.map_map]
  rfl

end Go.Proofs.YtcoaoheakeodoaaDoor

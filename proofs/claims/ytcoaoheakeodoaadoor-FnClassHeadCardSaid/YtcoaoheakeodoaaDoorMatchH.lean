/-
  What path.Match's walk wants of the plain functions. Conditions: none beyond those of each theorem.
-/
import Derived.Test.YtcoaoheakeodoaaDoorMatchG
import Derived.Lib.Bytealg
namespace Go.Proofs.YtcoaoheakeodoaaDoor
open Go Go.Lib

def remOK (r : Bs) : Bool := (chunks r).all fun x => (parse true x.2).isSome
theorem remOK_nil : remOK [] = true := rfl
theorem remOK_cons (p : Bs) (h : p ≠ []) : remOK p = ((parse true (chunkOf p)).isSome && remOK (restOf p)) := by
  unfold remOK
  rw [chunks_cons p h, List.all_cons]

/-- What the search does behind a failure at the beginning. -/
def nxt (ts : List Tm) (last : Bool) : Bs → Option Bs
  | [] => none
  | b :: s => if b ≠ 47 then first true ts last s else none

theorem first_hit (star : Bool) (ts : List Tm) (last : Bool) (s t : Bs) (h : steps ts (some s) = some t) (h2 : (last && !t.isEmpty) = false) : first star ts last s = some t := by
  cases s with
  | nil => unfold first; rw [h]; simp only [h2]; simp
  | cons b s => unfold first; rw [h]; simp only [h2]; simp
theorem first_miss (star : Bool) (ts : List Tm) (last : Bool) (s : Bs) (h : ∀ t, steps ts (some s) = some t → (last && !t.isEmpty) = true) : first star ts last s = if star then nxt ts last s else none := by
  cases s with
  | nil =>
    unfold first nxt
    cases hs : steps ts (some []) with
    | none => simp
    | some t => simp only [h t hs]; simp
  | cons b s =>
    unfold first nxt
    cases hs : steps ts (some (b :: s)) with
    | none => cases star <;> by_cases hb : b = 47 <;> simp [hb]
    | some t =>
      simp only [h t hs]
      cases star <;> by_cases hb : b = 47 <;> simp [hb]

theorem first_star_nil : ∀ (s : Bs), first true [] true s = if s.contains 47 then none else some []
  | [] => rfl
  | b :: s => by
    rw [first_miss true [] true (b :: s) (fun t h => by
      have : t = b :: s := by
        have h' : some (b :: s) = some t := h
        injection h' with h'
        exact h'.symm
      subst this
      rfl)]
    show (if b ≠ 47 then first true [] true s else none) = _
    by_cases hb : b = 47
    · subst hb
      simp
    · rw [if_pos hb, first_star_nil s]
      have : (b :: s).contains 47 = s.contains 47 := by
        simp only [List.contains_cons]
        have : ((47 : UInt8) == b) = false := by simpa using fun e => hb e.symm
        rw [this]
        rfl
      rw [this]

theorem matchF_nil (s : Bs) : matchF [] s = some s.isEmpty := rfl
theorem matchF_step (p s : Bs) (h : p ≠ []) : matchF p s = match parse true (chunkOf p) with
    | none => none
    | some ts => match first (p.head? == some 42) ts (restOf p).isEmpty s with
      | some t => matchF (restOf p) t
      | none => if remOK (restOf p) then some false else none := by
  unfold matchF
  rw [chunks_cons p h]
  conv => lhs; unfold matchC
  rw [chunks_empty]
  rfl

theorem rest_nil (p : Bs) (hc : chunkOf p = []) : restOf p = [] := by
  unfold chunkOf at hc
  unfold restOf
  by_cases hq : p.dropWhile (· == 42) = []
  · rw [hq]; simp
  · have h42 : (p.dropWhile (· == 42)).head? ≠ some 42 := by
      have := List.head?_dropWhile_not (fun x : UInt8 => x == 42) p
      intro e
      rw [e] at this
      simp at this
    have := scan_pos' hq h42
    have hl := congrArg List.length hc
    rw [List.length_take, List.length_nil] at hl
    have := List.length_pos_iff.2 hq
    omega
theorem chunkOf_le (p : Bs) : (chunkOf p).length ≤ p.length := by
  unfold chunkOf
  have := (List.dropWhile_sublist (fun x : UInt8 => x == 42) (l := p)).length_le
  rw [List.length_take]
  omega

theorem step_le (t : Tm) (s r : Bs) (h : step t s = some r) : r.length ≤ s.length := by
  cases s with
  | nil => cases h
  | cons b s =>
    unfold step at h
    simp only at h
    by_cases k1 : t.kind = 1
    · rw [if_pos k1] at h
      by_cases hb : b = 47
      · rw [if_pos hb] at h; cases h
      · rw [if_neg hb] at h; injection h with h; subst h; simp
    · rw [if_neg k1] at h
      by_cases k2 : t.kind = 2
      · rw [if_pos k2] at h
        by_cases hb : inR t.rs (dec (b :: s)).1 = t.neg
        · rw [if_pos hb] at h; cases h
        · rw [if_neg hb] at h; injection h with h; subst h; simp
      · rw [if_neg k2] at h
        by_cases k4 : t.kind = 4
        · rw [if_pos k4] at h
          by_cases hb : b.toNat = t.chr
          · rw [if_pos hb] at h; injection h with h; subst h; simp
          · rw [if_neg hb] at h; cases h
        · rw [if_neg k4] at h; cases h
theorem steps_le : ∀ (ts : List Tm) (s r : Bs), steps ts (some s) = some r → r.length ≤ s.length
  | [], s, r, h => by injection h with h; subst h; exact Nat.le_refl _
  | t :: ts, s, r, h => by
    have h' : steps ts (step t s) = some r := h
    cases hs : step t s with
    | none =>
      rw [hs] at h'
      have : ∀ us : List Tm, steps us none = none := fun us => by
        induction us with
        | nil => rfl
        | cons u us ih => exact ih
      rw [this] at h'
      cases h'
    | some r' =>
      rw [hs] at h'
      have := steps_le ts r' r h'
      have := step_le t s r' hs
      omega

theorem indexByte_neg (l : Bs) (c : UInt8) : (indexByte l c < 0) ↔ l.contains c = false := by
  induction l with
  | nil => simp [indexByte]
  | cons b l ih =>
    unfold indexByte
    have hge := indexByte_ge l c
    by_cases hb : b = c
    · simp [hb]
    · have e : (b == c) = false := by simpa using hb
      have e2 : (c == b) = false := by simpa using fun x => hb x.symm
      rw [e, List.contains_cons, e2, Bool.false_or, ← ih]
      simp only [Bool.false_eq_true, if_false]
      split
      · rename_i h
        have : indexByte l c = -1 := by simpa using h
        omega
      · rename_i h
        have : indexByte l c ≠ -1 := by simpa using h
        omega

end Go.Proofs.YtcoaoheakeodoaaDoor

/-
  Plain functions for path.Match as it goes, over lists of bytes: no program. Conditions: none beyond those of each theorem.
-/
import Derived.Lib.ValidLaws
import Derived.Lib.TrimUEq
namespace Go.Proofs.YtcoaoheakeodoaaDoor
open Go Go.Lib

abbrev Bs := List UInt8

/-- unicode/utf8.DecodeRuneInString. -/
def dec (l : Bs) : Nat × Nat := if l = [] then (65533, 0) else decodeL l

theorem decodeN_le (n b0 b1 b2 b3 : Nat) (hn : 1 ≤ n) : (decodeN n b0 b1 b2 b3).2 ≤ n := by
  unfold decodeN
  repeat' split
  all_goals (simp only; omega)
theorem dec_ge {l : Bs} (h : l ≠ []) : 1 ≤ (dec l).2 := by
  unfold dec
  rw [if_neg h, decodeL_N]
  exact decodeN_ge1 _ _ _ _ _
theorem dec_le (l : Bs) : (dec l).2 ≤ l.length := by
  unfold dec
  split
  · simp
  · rename_i h
    rw [decodeL_N]
    exact decodeN_le _ _ _ _ _ (List.length_pos_iff.2 h)
theorem dec_rune_le (l : Bs) : (dec l).1 ≤ 1114111 := by
  unfold dec
  split
  · simp
  · rw [decodeL_N]
    exact decodeN_rune_le _ _ _ _ _ (UInt8.toNat_lt _)
theorem dec_ascii (b : UInt8) (t : Bs) (h : b.toNat < 128) : dec (b :: t) = (b.toNat, 1) := by
  unfold dec
  rw [if_neg (by simp), decodeL_N]
  exact decodeN_ascii _ _ _ _ _ h
/-- Is what is decoded no character? -/
def badDec (l : Bs) : Prop := (dec l).1 = 65533 ∧ (dec l).2 = 1
instance (l : Bs) : Decidable (badDec l) := inferInstanceAs (Decidable (_ ∧ _))

/-- path.getEsc: none: the pattern is malformed. -/
def getEsc (c : Bs) : Option (Nat × Bs) :=
  if c = [] then none
  else if c.head? = some 45 ∨ c.head? = some 93 then none
  else
    let d := if c.head? = some 92 then c.tail else c
    if d = [] then none
    else if badDec d then none
    else if d.drop (dec d).2 = [] then none
    else some ((dec d).1, d.drop (dec d).2)

theorem getEsc_lt {c : Bs} {r : Nat} {c' : Bs} (h : getEsc c = some (r, c')) : c' ≠ [] ∧ c'.length < c.length := by
  unfold getEsc at h
  split at h
  · cases h
  · rename_i h0
    split at h
    · cases h
    · rename_i h1
      simp only at h
      generalize hd : (if c.head? = some 92 then c.tail else c) = d at h
      have hdl : d.length ≤ c.length := by
        rw [← hd]
        split
        · simp
        · exact Nat.le_refl _
      split at h
      · cases h
      · rename_i h2
        split at h
        · cases h
        · split at h
          · cases h
          · rename_i h4
            injection h with h
            injection h with h5 h6
            subst h6
            refine ⟨h4, ?_⟩
            have := dec_ge h2
            have := List.length_pos_iff.2 h2
            rw [List.length_drop]
            omega

/-- The ranges of a class, and what is behind its bracket; k ranges have been read. -/
def rangesF : Nat → Bs → Nat → Option (List (Nat × Nat) × Bs)
  | 0, _, _ => none
  | f + 1, c, k =>
    if c.head? = some 93 ∧ 0 < k then some ([], c.tail)
    else match getEsc c with
      | none => none
      | some (lo, c1) =>
        if c1.head? = some 45 then
          match getEsc c1.tail with
          | none => none
          | some (hi, c2) => (rangesF f c2 (k + 1)).map fun x => ((lo, hi) :: x.1, x.2)
        else (rangesF f c1 (k + 1)).map fun x => ((lo, lo) :: x.1, x.2)

theorem rangesF_fuel : ∀ (f g : Nat) (c : Bs) (k : Nat), c.length < f → c.length < g → rangesF f c k = rangesF g c k
  | 0, _, _, _, h, _ => by omega
  | _ + 1, 0, _, _, _, h => by omega
  | f + 1, g + 1, c, k, hf, hg => by
    unfold rangesF
    split
    · rfl
    · cases h1 : getEsc c with
      | none => rfl
      | some x =>
        obtain ⟨lo, c1⟩ := x
        have l1 := (getEsc_lt h1).2
        simp only
        split
        · cases h2 : getEsc c1.tail with
          | none => rfl
          | some y =>
            obtain ⟨hi, c2⟩ := y
            have l2 := (getEsc_lt h2).2
            have : c1.tail.length ≤ c1.length := by simp
            simp only
            rw [rangesF_fuel f g c2 (k + 1) (by omega) (by omega)]
        · rw [rangesF_fuel f g c1 (k + 1) (by omega) (by omega)]

def ranges (c : Bs) (k : Nat) : Option (List (Nat × Nat) × Bs) := rangesF (c.length + 1) c k

theorem ranges_eq (c : Bs) (k : Nat) : ranges c k =
    if c.head? = some 93 ∧ 0 < k then some ([], c.tail)
    else match getEsc c with
      | none => none
      | some (lo, c1) =>
        if c1.head? = some 45 then
          match getEsc c1.tail with
          | none => none
          | some (hi, c2) => (ranges c2 (k + 1)).map fun x => ((lo, hi) :: x.1, x.2)
        else (ranges c1 (k + 1)).map fun x => ((lo, lo) :: x.1, x.2) := by
  conv => lhs; unfold ranges rangesF
  split
  · rfl
  · cases h1 : getEsc c with
    | none => rfl
    | some x =>
      obtain ⟨lo, c1⟩ := x
      have l1 := (getEsc_lt h1).2
      simp only
      split
      · cases h2 : getEsc c1.tail with
        | none => rfl
        | some y =>
          obtain ⟨hi, c2⟩ := y
          have l2 := (getEsc_lt h2).2
          have : c1.tail.length ≤ c1.length := by simp
          simp only
          unfold ranges
          rw [rangesF_fuel c.length (c2.length + 1) c2 (k + 1) (by omega) (by omega)]
      · unfold ranges
        rw [rangesF_fuel c.length (c1.length + 1) c1 (k + 1) (by omega) (by omega)]

theorem ranges_lt : ∀ (n : Nat) (c : Bs) (k : Nat), c.length ≤ n → ∀ x, ranges c k = some x → x.2.length < c.length
  | n, c, k, hn, x, h => by
    rw [ranges_eq] at h
    split at h
    · rename_i hh
      injection h with h
      subst h
      cases c with
      | nil => simp at hh
      | cons b t => simp
    · cases h1 : getEsc c with
      | none => rw [h1] at h; cases h
      | some y =>
        obtain ⟨lo, c1⟩ := y
        have l1 := (getEsc_lt h1).2
        rw [h1] at h
        simp only at h
        split at h
        · cases h2 : getEsc c1.tail with
          | none => rw [h2] at h; cases h
          | some z =>
            obtain ⟨hi, c2⟩ := z
            have l2 := (getEsc_lt h2).2
            have : c1.tail.length ≤ c1.length := by simp
            rw [h2] at h
            simp only at h
            cases h3 : ranges c2 (k + 1) with
            | none => rw [h3] at h; cases h
            | some u =>
              rw [h3] at h
              injection h with h
              subst h
              have := match n, hn with
                | 0, hn => absurd hn (by omega)
                | n + 1, hn => ranges_lt n c2 (k + 1) (by omega) u h3
              simp only
              omega
        · cases h3 : ranges c1 (k + 1) with
          | none => rw [h3] at h; cases h
          | some u =>
            rw [h3] at h
            injection h with h
            subst h
            have := match n, hn with
              | 0, hn => absurd hn (by omega)
              | n + 1, hn => ranges_lt n c1 (k + 1) (by omega) u h3
            simp only
            omega

/-- A term: 0 a star, 1 a question mark, 2 a class, 3 a character, 4 a byte. -/
structure Tm where
  kind : Nat
  chr : Nat := 0
  neg : Bool := false
  rs : List (Nat × Nat) := []

abbrev Tm.star : Tm := { kind := 0 }
abbrev Tm.any : Tm := { kind := 1 }
abbrev Tm.cls (neg : Bool) (rs : List (Nat × Nat)) : Tm := { kind := 2, neg := neg, rs := rs }
abbrev Tm.lit (b : UInt8) : Tm := { kind := 4, chr := b.toNat }

/-- The head of a class: is it inverted, and its ranges. -/
def classHead (t : Bs) : Bool × Bs := if t.head? = some 94 then (true, t.tail) else (false, t)

/-- The terms of a pattern as the code reads it; 'sl': a star is taken for a byte. none: malformed. -/
def parseF (sl : Bool) : Nat → Bs → Option (List Tm)
  | 0, _ => some []
  | _ + 1, [] => some []
  | f + 1, b :: t =>
    if b = 91 then
      match ranges (classHead t).2 0 with
      | none => none
      | some (rs, r) => (parseF sl f r).map fun x => Tm.cls (classHead t).1 rs :: x
    else if b = 63 then (parseF sl f t).map fun x => Tm.any :: x
    else if b = 92 then
      match t with
      | [] => none
      | c :: t' => (parseF sl f t').map fun x => Tm.lit c :: x
    else if b = 42 ∧ sl = false then (parseF sl f t).map fun x => Tm.star :: x
    else (parseF sl f t).map fun x => Tm.lit b :: x

theorem classHead_le (t : Bs) : (classHead t).2.length ≤ t.length := by
  unfold classHead
  split <;> simp

theorem parseF_fuel (sl : Bool) : ∀ (f g : Nat) (p : Bs), p.length ≤ f → p.length ≤ g → parseF sl f p = parseF sl g p
  | 0, 0, _, _, _ => rfl
  | 0, g + 1, [], _, _ => rfl
  | 0, _ + 1, _ :: _, h, _ => by simp at h
  | f + 1, 0, [], _, _ => rfl
  | _ + 1, 0, _ :: _, _, h => by simp at h
  | f + 1, g + 1, [], _, _ => rfl
  | f + 1, g + 1, b :: t, hf, hg => by
    simp only [List.length_cons] at hf hg
    unfold parseF
    split
    · cases h : ranges (classHead t).2 0 with
      | none => rfl
      | some x =>
        obtain ⟨rs, r⟩ := x
        have h1 := ranges_lt _ _ _ (Nat.le_refl _) _ h
        have h2 := classHead_le t
        simp only at h1 ⊢
        rw [parseF_fuel sl f g r (by omega) (by omega)]
    · split
      · rw [parseF_fuel sl f g t (by omega) (by omega)]
      · split
        · cases t with
          | nil => rfl
          | cons c t' =>
            simp only [List.length_cons] at hf hg
            simp only
            rw [parseF_fuel sl f g t' (by omega) (by omega)]
        · split <;> rw [parseF_fuel sl f g t (by omega) (by omega)]

def parse (sl : Bool) (p : Bs) : Option (List Tm) := parseF sl p.length p

theorem parse_nil (sl : Bool) : parse sl [] = some [] := rfl
theorem parse_cons (sl : Bool) (b : UInt8) (t : Bs) : parse sl (b :: t) =
    if b = 91 then
      match ranges (classHead t).2 0 with
      | none => none
      | some (rs, r) => (parse sl r).map fun x => Tm.cls (classHead t).1 rs :: x
    else if b = 63 then (parse sl t).map fun x => Tm.any :: x
    else if b = 92 then
      match t with
      | [] => none
      | c :: t' => (parse sl t').map fun x => Tm.lit c :: x
    else if b = 42 ∧ sl = false then (parse sl t).map fun x => Tm.star :: x
    else (parse sl t).map fun x => Tm.lit b :: x := by
  conv => lhs; unfold parse parseF
  simp only [List.length_cons]
  split
  · cases h : ranges (classHead t).2 0 with
    | none => rfl
    | some x =>
      obtain ⟨rs, r⟩ := x
      have h1 := ranges_lt _ _ _ (Nat.le_refl _) _ h
      have h2 := classHead_le t
      simp only at h1 ⊢
      unfold parse
      rw [parseF_fuel sl t.length r.length r (by omega) (by omega)]
  · split
    · rfl
    · split
      · cases t with
        | nil => rfl
        | cons c t' =>
          simp only
          unfold parse
          rw [parseF_fuel sl (c :: t').length t'.length t' (by simp) (by simp)]
      · rfl

theorem parse_esc (sl : Bool) (c : UInt8) (t : Bs) : parse sl (92 :: c :: t) = (parse sl t).map fun x => Tm.lit c :: x := by
  rw [parse_cons, if_neg (by decide), if_neg (by decide), if_pos rfl]
theorem parse_esc_nil (sl : Bool) : parse sl [92] = none := by
  rw [parse_cons, if_neg (by decide), if_neg (by decide), if_pos rfl]
theorem parse_any (sl : Bool) (t : Bs) : parse sl (63 :: t) = (parse sl t).map fun x => Tm.any :: x := by
  rw [parse_cons, if_neg (by decide), if_pos rfl]
theorem parse_lit (sl : Bool) (b : UInt8) (t : Bs) (h1 : b ≠ 91) (h2 : b ≠ 63) (h3 : b ≠ 92) (h4 : b ≠ 42 ∨ sl = true) : parse sl (b :: t) = (parse sl t).map fun x => Tm.lit b :: x := by
  rw [parse_cons, if_neg h1, if_neg h2, if_neg h3, if_neg (fun e => by rcases h4 with h | h; exact h e.1; rw [h] at e; cases e.2)]
theorem parse_cls (sl : Bool) (t : Bs) : parse sl (91 :: t) = match ranges (classHead t).2 0 with
      | none => none
      | some (rs, r) => (parse sl r).map fun x => Tm.cls (classHead t).1 rs :: x := by
  rw [parse_cons, if_pos rfl]

/-- Is a rune in one of the ranges? -/
def inR (rs : List (Nat × Nat)) (r : Nat) : Bool := rs.any fun x => decide (x.1 ≤ r ∧ r ≤ x.2)

/-- What a term that is no star leaves of a name; none: it does not match. -/
def step (t : Tm) (s : Bs) : Option Bs :=
  match s with
  | [] => none
  | b :: s' =>
    if t.kind = 1 then (if b = 47 then none else some ((b :: s').drop (dec (b :: s')).2))
    else if t.kind = 2 then (if inR t.rs (dec (b :: s')).1 = t.neg then none else some ((b :: s').drop (dec (b :: s')).2))
    else if t.kind = 4 then (if b.toNat = t.chr then some s' else none)
    else none

def steps : List Tm → Option Bs → Option Bs
  | [], s => s
  | t :: ts, s => steps ts (s.bind (step t))

theorem steps_none : ∀ ts, steps ts none = none
  | [] => rfl
  | _ :: ts => steps_none ts

/-- path.matchChunk: none: malformed; some none: no match; else what is left. -/
def chunkF (c s : Bs) : Option (Option Bs) := (parse true c).map fun ts => steps ts (some s)

/-- How far the first chunk of a pattern goes. -/
def scanEnd : Bs → Bool → Nat
  | [], _ => 0
  | b :: t, i =>
    if b = 92 then
      match t with
      | [] => 1
      | _ :: t' => scanEnd t' i + 2
    else if b = 91 then scanEnd t true + 1
    else if b = 93 then scanEnd t false + 1
    else if b = 42 then (if i then scanEnd t i + 1 else 0)
    else scanEnd t i + 1

end Go.Proofs.YtcoaoheakeodoaaDoor

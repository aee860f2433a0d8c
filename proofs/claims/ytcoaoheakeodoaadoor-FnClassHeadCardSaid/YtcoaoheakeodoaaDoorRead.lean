/-
  The reference's reading of a pattern, over lists of characters; at a valid pattern it is the code's own. Conditions: none beyond those of each theorem.
-/
import Derived.Test.YtcoaoheakeodoaaDoorUtfA
namespace Go.Proofs.YtcoaoheakeodoaaDoor
open Go Go.Lib

/-- spec.element: none: there is none. -/
def elemR : List Nat → Option (Nat × List Nat)
  | [] => none
  | c :: t => if c = 92 then (match t with | [] => none | d :: u => some (d, u)) else if c = 45 ∨ c = 93 then none else some (c, t)
theorem elemR_cons (c : Nat) (t : List Nat) : elemR (c :: t) = if c = 92 then (match t with | [] => none | d :: u => some (d, u)) else if c = 45 ∨ c = 93 then none else some (c, t) := rfl
theorem elemR_lt {l : List Nat} {c : Nat} {t : List Nat} (h : elemR l = some (c, t)) : t.length < l.length := by
  cases l with
  | nil => cases h
  | cons b l =>
    rw [elemR_cons] at h
    split at h
    · cases l with
      | nil => cases h
      | cons d u => injection h with h; injection h with h1 h2; subst h2; simp; omega
    · split at h
      · cases h
      · injection h with h; injection h with h1 h2; subst h2; simp

/-- spec.closes. -/
def closesR : List Nat → Bool
  | [] => false
  | c :: _ => decide (c = 45 ∨ c = 93)

/-- What comes of a class: its ranges and what is behind it, or that it is malformed, and whether the grammar alone says so. -/
inductive CR where
  | good (rs : List (Nat × Nat)) (rest : List Nat)
  | bad (settled : Bool)

def CR.push (r : Nat × Nat) : CR → CR
  | .good rs t => .good (r :: rs) t
  | .bad s => .bad s

/-- The loop of spec.class; k ranges have been read. -/
def clsF : Nat → List Nat → Nat → CR
  | 0, _, _ => .bad true
  | f + 1, p, k =>
    match p with
    | [] => .bad true
    | c :: t =>
      if c = 93 then (if 0 < k then .good [] t else .bad true)
      else match elemR (c :: t) with
        | none => .bad true
        | some (lo, q) =>
          if q.head? = some 45 then
            if closesR q.tail then .bad false
            else match elemR q.tail with
              | none => .bad true
              | some (hi, q2) => (clsF f q2 (k + 1)).push (lo, hi)
          else (clsF f q (k + 1)).push (lo, lo)

theorem clsF_fuel : ∀ (f g : Nat) (p : List Nat) (k : Nat), p.length < f → p.length < g → clsF f p k = clsF g p k
  | 0, _, _, _, h, _ => by omega
  | _ + 1, 0, _, _, _, h => by omega
  | f + 1, g + 1, [], k, _, _ => rfl
  | f + 1, g + 1, c :: t, k, hf, hg => by
    unfold clsF
    simp only
    split
    · rfl
    · cases h1 : elemR (c :: t) with
      | none => rfl
      | some x =>
        obtain ⟨lo, q⟩ := x
        have l1 := elemR_lt h1
        simp only
        split
        · split
          · rfl
          · cases h2 : elemR q.tail with
            | none => rfl
            | some y =>
              obtain ⟨hi, q2⟩ := y
              have l2 := elemR_lt h2
              have : q.tail.length ≤ q.length := by simp
              simp only
              rw [clsF_fuel f g q2 (k + 1) (by omega) (by omega)]
        · rw [clsF_fuel f g q (k + 1) (by omega) (by omega)]

def clsR (p : List Nat) (k : Nat) : CR := clsF (p.length + 1) p k
theorem clsR_nil (k : Nat) : clsR [] k = .bad true := rfl
theorem clsR_cons (c : Nat) (t : List Nat) (k : Nat) : clsR (c :: t) k =
    if c = 93 then (if 0 < k then .good [] t else .bad true)
    else match elemR (c :: t) with
      | none => .bad true
      | some (lo, q) =>
        if q.head? = some 45 then
          if closesR q.tail then .bad false
          else match elemR q.tail with
            | none => .bad true
            | some (hi, q2) => (clsR q2 (k + 1)).push (lo, hi)
        else (clsR q (k + 1)).push (lo, lo) := by
  conv => lhs; unfold clsR clsF
  simp only
  split
  · rfl
  · cases h1 : elemR (c :: t) with
    | none => rfl
    | some x =>
      obtain ⟨lo, q⟩ := x
      have l1 := elemR_lt h1
      simp only
      split
      · split
        · rfl
        · cases h2 : elemR q.tail with
          | none => rfl
          | some y =>
            obtain ⟨hi, q2⟩ := y
            have l2 := elemR_lt h2
            have : q.tail.length ≤ q.length := by simp
            simp only
            unfold clsR
            rw [clsF_fuel (c :: t).length (q2.length + 1) q2 (k + 1) (by omega) (by omega)]
      · unfold clsR
        rw [clsF_fuel (c :: t).length (q.length + 1) q (k + 1) (by omega) (by omega)]

theorem clsR_lt : ∀ (n : Nat) (p : List Nat) (k : Nat), p.length ≤ n → ∀ rs t, clsR p k = .good rs t → t.length < p.length
  | _, [], k, _, rs, t, h => by cases h
  | 0, _ :: _, _, h, _, _, _ => by simp at h
  | n + 1, c :: p, k, hn, rs, t, h => by
    rw [clsR_cons] at h
    split at h
    · split at h
      · injection h with _ h; subst h; simp
      · cases h
    · cases h1 : elemR (c :: p) with
      | none => rw [h1] at h; cases h
      | some x =>
        obtain ⟨lo, q⟩ := x
        have l1 := elemR_lt h1
        rw [h1] at h
        simp only at h
        simp only [List.length_cons] at hn l1 ⊢
        split at h
        · split at h
          · cases h
          · cases h2 : elemR q.tail with
            | none => rw [h2] at h; cases h
            | some y =>
              obtain ⟨hi, q2⟩ := y
              have l2 := elemR_lt h2
              have l3 : q.tail.length ≤ q.length := by simp
              rw [h2] at h
              simp only at h
              cases h3 : clsR q2 (k + 1) with
              | bad s => rw [h3] at h; cases h
              | good rs' t' =>
                rw [h3] at h
                injection h with _ h
                subst h
                have := clsR_lt n q2 (k + 1) (by omega) rs' t' h3
                omega
        · cases h3 : clsR q (k + 1) with
          | bad s => rw [h3] at h; cases h
          | good rs' t' =>
            rw [h3] at h
            injection h with _ h
            subst h
            have := clsR_lt n q (k + 1) (by omega) rs' t' h3
            omega

/-- spec.class, behind its bracket. -/
def classR (p : List Nat) : Bool × CR :=
  if p.head? = some 94 then (true, if closesR p.tail then .bad false else clsR p.tail 0) else (false, clsR p 0)

abbrev Tm.chr' (c : Nat) : Tm := { kind := 3, chr := c }

/-- spec.Read: its terms, or that the pattern is malformed, and whether the grammar alone says so. -/
inductive RR where
  | good (ts : List Tm)
  | bad (settled : Bool)
def RR.push (t : Tm) : RR → RR
  | .good ts => .good (t :: ts)
  | .bad s => .bad s

def readF : Nat → List Nat → RR
  | 0, _ => .good []
  | _ + 1, [] => .good []
  | f + 1, c :: t =>
    if c = 42 then (readF f t).push Tm.star
    else if c = 63 then (readF f t).push Tm.any
    else if c = 91 then
      match (classR t).2 with
      | .bad s => .bad s
      | .good rs r => (readF f r).push (Tm.cls (classR t).1 rs)
    else if c = 92 then
      match t with
      | [] => .bad true
      | d :: t' => (readF f t').push (Tm.chr' d)
    else (readF f t).push (Tm.chr' c)

theorem classR_lt (p : List Nat) (rs : List (Nat × Nat)) (t : List Nat) (h : (classR p).2 = .good rs t) : t.length < p.length := by
  unfold classR at h
  split at h
  · simp only at h
    split at h
    · cases h
    · have := clsR_lt _ _ _ (Nat.le_refl _) _ _ h
      have : p.tail.length ≤ p.length := by simp
      omega
  · exact clsR_lt _ _ _ (Nat.le_refl _) _ _ h

theorem readF_fuel : ∀ (f g : Nat) (p : List Nat), p.length ≤ f → p.length ≤ g → readF f p = readF g p
  | 0, 0, _, _, _ => rfl
  | 0, g + 1, [], _, _ => rfl
  | 0, _ + 1, _ :: _, h, _ => by simp at h
  | f + 1, 0, [], _, _ => rfl
  | _ + 1, 0, _ :: _, _, h => by simp at h
  | f + 1, g + 1, [], _, _ => rfl
  | f + 1, g + 1, c :: t, hf, hg => by
    simp only [List.length_cons] at hf hg
    have e := readF_fuel f g t (by omega) (by omega)
    unfold readF
    rw [e]
    split
    · rfl
    · split
      · rfl
      · split
        · cases h : (classR t).2 with
          | bad s => rfl
          | good rs r =>
            have h1 := classR_lt t rs r h
            simp only
            rw [readF_fuel f g r (by omega) (by omega)]
        · split
          · cases t with
            | nil => rfl
            | cons d t' =>
              simp only [List.length_cons] at hf hg
              simp only
              rw [readF_fuel f g t' (by omega) (by omega)]
          · rfl

def readR (p : List Nat) : RR := readF p.length p
theorem readR_nil : readR [] = .good [] := rfl
theorem readR_cons (c : Nat) (t : List Nat) : readR (c :: t) =
    if c = 42 then (readR t).push Tm.star
    else if c = 63 then (readR t).push Tm.any
    else if c = 91 then
      match (classR t).2 with
      | .bad s => .bad s
      | .good rs r => (readR r).push (Tm.cls (classR t).1 rs)
    else if c = 92 then
      match t with
      | [] => .bad true
      | d :: t' => (readR t').push (Tm.chr' d)
    else (readR t).push (Tm.chr' c) := by
  conv => lhs; unfold readR readF
  simp only [List.length_cons]
  split
  · rfl
  · split
    · rfl
    · split
      · cases h : (classR t).2 with
        | bad s => rfl
        | good rs r =>
          have h1 := classR_lt t rs r h
          simp only
          unfold readR
          rw [readF_fuel t.length r.length r (by omega) (by omega)]
      · split
        · cases t with
          | nil => rfl
          | cons d t' =>
            simp only
            unfold readR
            rw [readF_fuel (d :: t').length t'.length t' (by simp) (by simp)]
        · rfl

/-! ### The code's reading of the bytes is the reference's of the characters -/

/-- A term of characters as terms of bytes. -/
def ex (t : Tm) : List Tm := if t.kind = 3 then lits (enc t.chr) else [t]
def exs (ts : List Tm) : List Tm := ts.flatMap ex
theorem exs_nil : exs [] = [] := rfl
theorem exs_cons (t : Tm) (ts : List Tm) : exs (t :: ts) = ex t ++ exs ts := rfl
theorem exs_append (a b : List Tm) : exs (a ++ b) = exs a ++ exs b := by simp [exs]

def RR.ok : RR → Option (List Tm)
  | .good ts => some ts
  | .bad _ => none
theorem RR.ok_push (t : Tm) (r : RR) : (r.push t).ok = r.ok.map (t :: ·) := by cases r <;> rfl
def RR.settled : RR → Bool
  | .good _ => true
  | .bad s => s

def CR.ok : CR → Option (List (Nat × Nat) × List Nat)
  | .good rs t => some (rs, t)
  | .bad _ => none
theorem CR.ok_push (r : Nat × Nat) (c : CR) : (c.push r).ok = c.ok.map (fun x => (r :: x.1, x.2)) := by cases c <;> rfl

theorem head_encs (c : Nat) (cs : List Nat) (k : Nat) (hk : k < 128) : (encs (c :: cs)).head? = some (UInt8.ofNat k) ↔ c = k := by
  rw [encs_cons]
  by_cases hc : c < 128
  · rw [enc_ascii hc]
    simp only [List.cons_append, List.nil_append, List.head?_cons, Option.some.injEq]
    constructor
    · intro h
      have := congrArg UInt8.toNat h
      rwa [toNat_ofNat8 _ (by omega), toNat_ofNat8 _ (by omega)] at this
    · rintro rfl; rfl
  · obtain ⟨b, t, e, h1, _, _⟩ := enc_high (c := c) (by omega)
    rw [e]
    simp only [List.cons_append, List.head?_cons, Option.some.injEq]
    constructor
    · intro h
      have := congrArg UInt8.toNat h
      rw [toNat_ofNat8 _ (by omega)] at this
      omega
    · intro h; omega

theorem head_encs_opt (cs : List Nat) (k : Nat) (hk : k < 128) : (encs cs).head? = some (UInt8.ofNat k) ↔ cs.head? = some k := by
  cases cs with
  | nil => simp [encs_nil]
  | cons c cs => rw [head_encs c cs k hk]; simp

theorem tail_encs (c : Nat) (cs : List Nat) (h : c < 128) : (encs (c :: cs)).tail = encs cs := by
  rw [encs_cons, enc_ascii h]
  rfl

theorem escOf_encs (cs : List Nat) (h : scs cs) : escOf (encs cs) = match cs with
    | [] => none
    | c :: t => if t = [] then none else some (c, encs t) := by
  cases cs with
  | nil => rfl
  | cons c t =>
    obtain ⟨h1, h2⟩ := scs_cons.1 h
    unfold escOf
    rw [encs_cons]
    have hne : enc c ++ encs t ≠ [] := by intro e; exact absurd (List.append_eq_nil_iff.1 e).1 (enc_ne c)
    rw [if_neg hne, if_neg (dec_not_bad h1 _), dec_enc h1]
    simp only [List.drop_left, encs_nil_iff]

theorem getEsc_encs (cs : List Nat) (h : scs cs) : getEsc (encs cs) = match elemR cs with
    | none => none
    | some (c, t) => if t = [] then none else some (c, encs t) := by
  rw [getEsc_of]
  cases cs with
  | nil => rfl
  | cons c t =>
    obtain ⟨h1, h2⟩ := scs_cons.1 h
    rw [if_neg (by rw [encs_nil_iff]; simp)]
    have h45 := head_encs c t 45 (by omega)
    have h93 := head_encs c t 93 (by omega)
    have h92 := head_encs c t 92 (by omega)
    have u45 : (UInt8.ofNat 45) = 45 := rfl
    have u93 : (UInt8.ofNat 93) = 93 := rfl
    have u92 : (UInt8.ofNat 92) = 92 := rfl
    rw [u45] at h45
    rw [u93] at h93
    rw [u92] at h92
    rw [elemR_cons]
    by_cases c92 : c = 92
    · subst c92
      rw [if_neg (by rw [h45, h93]; omega), if_pos (h92.2 rfl), tail_encs _ _ (by omega), escOf_encs t h2]
      simp only [if_true]
      cases t <;> rfl
    · rw [if_neg (fun e => c92 (h92.1 e)), if_neg c92, escOf_encs (c :: t) h]
      by_cases c2 : c = 45 ∨ c = 93
      · rw [if_pos (by rw [h45, h93]; exact c2), if_pos c2]
      · rw [if_neg (by rw [h45, h93]; exact c2), if_neg c2]

theorem elemR_sc {cs : List Nat} {c : Nat} {t : List Nat} (h : elemR cs = some (c, t)) (hs : scs cs) : sc c ∧ scs t := by
  cases cs with
  | nil => cases h
  | cons b l =>
    obtain ⟨h1, h2⟩ := scs_cons.1 hs
    rw [elemR_cons] at h
    split at h
    · cases l with
      | nil => cases h
      | cons d u =>
        injection h with h
        injection h with e1 e2
        subst e1
        subst e2
        exact scs_cons.1 h2
    · split at h
      · cases h
      · injection h with h
        injection h with e1 e2
        subst e1
        subst e2
        exact ⟨h1, h2⟩

theorem ranges_encs : ∀ (n : Nat) (p : List Nat) (k : Nat), p.length ≤ n → scs p → ranges (encs p) k = (clsR p k).ok.map fun x => (x.1, encs x.2)
  | n, [], k, _, _ => by
    rw [ranges_eq, clsR_nil]
    rfl
  | 0, _ :: _, _, h, _ => by simp at h
  | n + 1, c :: p, k, hn, hs => by
    simp only [List.length_cons] at hn
    have h93 := head_encs c p 93 (by omega)
    have u93 : (UInt8.ofNat 93) = 93 := rfl
    rw [u93] at h93
    rw [ranges_eq, clsR_cons]
    simp only [h93]
    by_cases c93 : c = 93
    · subst c93
      simp only [true_and, if_true]
      by_cases hk : 0 < k
      · rw [if_pos hk, if_pos hk, tail_encs _ _ (by omega)]
        rfl
      · rw [if_neg hk, if_neg hk, getEsc_encs _ hs]
        rfl
    · rw [if_neg (fun e => c93 e.1), if_neg c93, getEsc_encs _ hs]
      cases h1 : elemR (c :: p) with
      | none => rfl
      | some x =>
        obtain ⟨lo, q⟩ := x
        have l1 := elemR_lt h1
        simp only [List.length_cons] at l1
        obtain ⟨_, hq⟩ := elemR_sc h1 hs
        simp only
        cases q with
        | nil =>
          rw [if_pos rfl, if_neg (by simp), clsR_nil]
          rfl
        | cons d q' =>
          simp only [List.length_cons] at l1
          obtain ⟨hd, hq'⟩ := scs_cons.1 hq
          rw [if_neg (by simp)]
          simp only
          have h45 := head_encs d q' 45 (by omega)
          have u45 : (UInt8.ofNat 45) = 45 := rfl
          rw [u45] at h45
          simp only [h45, List.head?_cons, Option.some.injEq]
          by_cases d45 : d = 45
          · subst d45
            rw [if_pos rfl, if_pos rfl, tail_encs _ _ (by omega)]
            have et : (45 :: q').tail = q' := rfl
            rw [et, getEsc_encs _ hq']
            by_cases hc : closesR q' = true
            · rw [if_pos hc]
              cases q' with
              | nil => cases hc
              | cons f q'' =>
                have : f = 45 ∨ f = 93 := by simpa [closesR] using hc
                have e : elemR (f :: q'') = none := by
                  rw [elemR_cons, if_neg (by omega), if_pos this]
                rw [e]
                rfl
            · rw [if_neg hc]
              cases h2 : elemR q' with
              | none => rfl
              | some y =>
                obtain ⟨hi, q2⟩ := y
                have l2 := elemR_lt h2
                obtain ⟨_, hq2⟩ := elemR_sc h2 hq'
                simp only
                cases q2 with
                | nil => rw [if_pos rfl, clsR_nil]; rfl
                | cons g q3 =>
                  rw [if_neg (by simp)]
                  simp only
                  rw [ranges_encs n (g :: q3) (k + 1) (by omega) hq2, CR.ok_push]
                  cases (clsR (g :: q3) (k + 1)).ok <;> rfl
          · rw [if_neg d45, if_neg d45, ranges_encs n (d :: q') (k + 1) (by simp only [List.length_cons]; omega) hq, CR.ok_push]
            cases (clsR (d :: q') (k + 1)).ok <;> rfl

theorem clsR_sc : ∀ (n : Nat) (p : List Nat) (k : Nat), p.length ≤ n → scs p → ∀ rs t, clsR p k = .good rs t → scs t ∧ (∀ r ∈ rs, sc r.1 ∧ sc r.2) ∧ (rs.length + k = 0 → False)
  | _, [], k, _, _, rs, t, h => by cases h
  | 0, _ :: _, _, h, _, _, _, _ => by simp at h
  | n + 1, c :: p, k, hn, hs, rs, t, h => by
    obtain ⟨hs1, hs2⟩ := scs_cons.1 hs
    rw [clsR_cons] at h
    split at h
    · split at h
      · injection h with h0 h
        subst h
        subst h0
        exact ⟨hs2, by simp, by omega⟩
      · cases h
    · cases h1 : elemR (c :: p) with
      | none => rw [h1] at h; cases h
      | some x =>
        obtain ⟨lo, q⟩ := x
        have l1 := elemR_lt h1
        obtain ⟨a1, a2⟩ := elemR_sc h1 hs
        rw [h1] at h
        simp only at h
        simp only [List.length_cons] at hn l1
        split at h
        · split at h
          · cases h
          · have hqt : scs q.tail := fun x hx => a2 x (List.mem_of_mem_tail hx)
            cases h2 : elemR q.tail with
            | none => rw [h2] at h; cases h
            | some y =>
              obtain ⟨hi, q2⟩ := y
              have l2 := elemR_lt h2
              obtain ⟨b1, b2⟩ := elemR_sc h2 hqt
              have l3 : q.tail.length ≤ q.length := by simp
              rw [h2] at h
              simp only at h
              cases h3 : clsR q2 (k + 1) with
              | bad s => rw [h3] at h; cases h
              | good rs' t' =>
                rw [h3] at h
                injection h with h0 h
                subst h
                subst h0
                obtain ⟨i1, i2, i3⟩ := clsR_sc n q2 (k + 1) (by omega) b2 rs' t' h3
                refine ⟨i1, ?_, by simp⟩
                intro r hr
                rcases List.mem_cons.1 hr with rfl | hr
                · exact ⟨a1, b1⟩
                · exact i2 r hr
        · cases h3 : clsR q (k + 1) with
          | bad s => rw [h3] at h; cases h
          | good rs' t' =>
            rw [h3] at h
            injection h with h0 h
            subst h
            subst h0
            obtain ⟨i1, i2, i3⟩ := clsR_sc n q (k + 1) (by omega) a2 rs' t' h3
            refine ⟨i1, ?_, by simp⟩
            intro r hr
            rcases List.mem_cons.1 hr with rfl | hr
            · exact ⟨a1, a1⟩
            · exact i2 r hr

/-- What is asked of a term that was read. -/
def goodTm (t : Tm) : Prop := (t.kind = 0 ∧ t = Tm.star) ∨ (t.kind = 1 ∧ t = Tm.any) ∨ (t.kind = 2 ∧ t = Tm.cls t.neg t.rs ∧ t.rs ≠ [] ∧ ∀ r ∈ t.rs, sc r.1 ∧ sc r.2) ∨ (t.kind = 3 ∧ t = Tm.chr' t.chr ∧ sc t.chr)

theorem classR_sc (p : List Nat) (hs : scs p) (rs : List (Nat × Nat)) (t : List Nat) (h : (classR p).2 = .good rs t) : scs t ∧ (∀ r ∈ rs, sc r.1 ∧ sc r.2) ∧ rs ≠ [] := by
  have key : ∀ q, scs q → clsR q 0 = .good rs t → scs t ∧ (∀ r ∈ rs, sc r.1 ∧ sc r.2) ∧ rs ≠ [] := fun q hq h => by
    obtain ⟨i1, i2, i3⟩ := clsR_sc _ q 0 (Nat.le_refl _) hq rs t h
    exact ⟨i1, i2, fun e => by subst e; exact i3 rfl⟩
  unfold classR at h
  split at h
  · simp only at h
    split at h
    · cases h
    · exact key _ (fun x hx => hs x (List.mem_of_mem_tail hx)) h
  · exact key _ hs h

theorem ranges_class (p : List Nat) (hs : scs p) : ranges (classHead (encs p)).2 0 = (classR p).2.ok.map (fun x => (x.1, encs x.2)) ∧ (classHead (encs p)).1 = (classR p).1 := by
  unfold classHead classR
  have h94 := head_encs_opt p 94 (by omega)
  have u94 : (UInt8.ofNat 94) = 94 := rfl
  rw [u94] at h94
  simp only [h94]
  by_cases hp : p.head? = some 94
  · rw [if_pos hp, if_pos hp]
    cases p with
    | nil => cases hp
    | cons c p =>
      obtain rfl : c = 94 := by simpa using hp
      obtain ⟨_, hs2⟩ := scs_cons.1 hs
      refine ⟨?_, rfl⟩
      have et : (94 :: p).tail = p := rfl
      show ranges (encs (94 :: p)).tail 0 = Option.map _ (CR.ok (if closesR (94 :: p).tail then .bad false else clsR (94 :: p).tail 0))
      rw [tail_encs _ _ (by omega), et]
      by_cases hc : closesR p = true
      · rw [if_pos hc]
        cases p with
        | nil => cases hc
        | cons f q =>
          have hf : f = 45 ∨ f = 93 := by simpa [closesR] using hc
          rw [ranges_encs _ _ 0 (Nat.le_refl _) hs2, clsR_cons]
          rcases hf with rfl | rfl
          · rfl
          · rfl
      · rw [if_neg hc, ranges_encs _ _ 0 (Nat.le_refl _) hs2]
  · rw [if_neg hp, if_neg hp]
    exact ⟨ranges_encs _ _ 0 (Nat.le_refl _) hs, rfl⟩

theorem parse_high : ∀ (l r : Bs), (∀ b ∈ l, 128 ≤ b.toNat) → parse false (l ++ r) = (parse false r).map fun ts => lits l ++ ts
  | [], r, _ => by
    show parse false r = _
    cases parse false r <;> rfl
  | b :: l, r, h => by
    have hb := h b (by simp)
    have hn : ∀ k : UInt8, k.toNat < 128 → b ≠ k := fun k hk e => by subst e; omega
    show parse false (b :: (l ++ r)) = _
    rw [parse_lit false b _ (hn 91 (by decide)) (hn 63 (by decide)) (hn 92 (by decide)) (.inl (hn 42 (by decide))), parse_high l r (fun x hx => h x (by simp [hx])), Option.map_map]
    rfl

theorem parse_chr (c : Nat) (r : Bs) (h42 : c ≠ 42) (h63 : c ≠ 63) (h91 : c ≠ 91) (h92 : c ≠ 92) : parse false (enc c ++ r) = (parse false r).map fun ts => lits (enc c) ++ ts := by
  by_cases hc : c < 128
  · rw [enc_ascii hc]
    have hn : ∀ k : Nat, k < 128 → c ≠ k → UInt8.ofNat c ≠ UInt8.ofNat k := fun k hk hne e => by
      have := congrArg UInt8.toNat e
      rw [toNat_ofNat8 _ (by omega), toNat_ofNat8 _ (by omega)] at this
      exact hne this
    show parse false (UInt8.ofNat c :: r) = _
    rw [parse_lit false _ _ (hn 91 (by omega) h91) (hn 63 (by omega) h63) (hn 92 (by omega) h92) (.inl (hn 42 (by omega) h42))]
    rfl
  · obtain ⟨b, t, e, h1, _, h3⟩ := enc_high (c := c) (by omega)
    rw [e]
    exact parse_high _ _ (fun x hx => by
      rcases List.mem_cons.1 hx with rfl | hx
      · omega
      · exact (h3 x hx).1)

theorem parse_escaped (c : Nat) (r : Bs) : parse false (92 :: (enc c ++ r)) = (parse false r).map fun ts => lits (enc c) ++ ts := by
  by_cases hc : c < 128
  · rw [enc_ascii hc]
    exact parse_esc false (UInt8.ofNat c) r
  · obtain ⟨b, t, e, h1, _, h3⟩ := enc_high (c := c) (by omega)
    rw [e]
    show parse false (92 :: b :: (t ++ r)) = _
    rw [parse_esc, parse_high _ _ (fun x hx => (h3 x hx).1), Option.map_map]
    rfl

theorem encs_asc (k : Nat) (h : k < 128) (t : List Nat) : encs (k :: t) = UInt8.ofNat k :: encs t := by
  rw [encs_cons, enc_ascii h]
  rfl

theorem parse_encs : ∀ (n : Nat) (p : List Nat), p.length ≤ n → scs p → parse false (encs p) = (readR p).ok.map exs
  | _, [], _, _ => rfl
  | 0, _ :: _, h, _ => by simp at h
  | n + 1, c :: p, hn, hs => by
    simp only [List.length_cons] at hn
    obtain ⟨h1, h2⟩ := scs_cons.1 hs
    rw [readR_cons]
    by_cases c42 : c = 42
    · subst c42
      rw [if_pos rfl, encs_asc 42 (by omega)]
      show parse false (42 :: encs p) = _
      rw [parse_star, parse_encs n p (by omega) h2, RR.ok_push]
      cases (readR p).ok <;> rfl
    · rw [if_neg c42]
      by_cases c63 : c = 63
      · subst c63
        rw [if_pos rfl, encs_asc 63 (by omega)]
        show parse false (63 :: encs p) = _
        rw [parse_any, parse_encs n p (by omega) h2, RR.ok_push]
        cases (readR p).ok <;> rfl
      · rw [if_neg c63]
        by_cases c91 : c = 91
        · subst c91
          rw [if_pos rfl, encs_asc 91 (by omega)]
          show parse false (91 :: encs p) = _
          obtain ⟨e1, e2⟩ := ranges_class p h2
          rw [parse_cls, e1, e2]
          cases hc : (classR p).2 with
          | bad s => rfl
          | good rs r =>
            have l1 := classR_lt p rs r hc
            obtain ⟨i1, _, _⟩ := classR_sc p h2 rs r hc
            show (parse false (encs r)).map _ = _
            rw [parse_encs n r (by omega) i1]
            simp only
            rw [RR.ok_push]
            cases (readR r).ok <;> rfl
        · rw [if_neg c91]
          by_cases c92 : c = 92
          · subst c92
            rw [if_pos rfl, encs_asc 92 (by omega)]
            cases p with
            | nil => exact parse_esc_nil false
            | cons d p' =>
              obtain ⟨_, h3⟩ := scs_cons.1 h2
              simp only [List.length_cons] at hn
              show parse false (92 :: (enc d ++ encs p')) = _
              rw [parse_escaped, parse_encs n p' (by omega) h3]
              simp only
              rw [RR.ok_push]
              cases (readR p').ok <;> rfl
          · rw [if_neg c92, encs_cons, parse_chr c _ c42 c63 c91 c92, parse_encs n p (by omega) h2, RR.ok_push]
            cases (readR p).ok <;> rfl

theorem parse_read (p : List Nat) (h : scs p) : parse false (encs p) = (readR p).ok.map exs := parse_encs _ p (Nat.le_refl _) h

theorem read_good : ∀ (n : Nat) (p : List Nat), p.length ≤ n → scs p → ∀ ts, readR p = .good ts → ∀ t ∈ ts, goodTm t
  | _, [], _, _, ts, h => by injection h with h; subst h; simp
  | 0, _ :: _, h, _, _, _ => by simp at h
  | n + 1, c :: p, hn, hs, ts, h => by
    simp only [List.length_cons] at hn
    obtain ⟨h1, h2⟩ := scs_cons.1 hs
    have key : ∀ (q : List Nat) (t : Tm), q.length ≤ n → scs q → goodTm t → (readR q).push t = .good ts → ∀ t ∈ ts, goodTm t := by
      intro q t hq hsq ht he
      cases hr : readR q with
      | bad s => rw [hr] at he; cases he
      | good us =>
        rw [hr] at he
        injection he with he
        subst he
        intro x hx
        rcases List.mem_cons.1 hx with rfl | hx
        · exact ht
        · exact read_good n q hq hsq us hr x hx
    rw [readR_cons] at h
    split at h
    · exact key p _ (by omega) h2 (.inl ⟨rfl, rfl⟩) h
    · split at h
      · exact key p _ (by omega) h2 (.inr (.inl ⟨rfl, rfl⟩)) h
      · split at h
        · cases hc : (classR p).2 with
          | bad s => rw [hc] at h; cases h
          | good rs r =>
            rw [hc] at h
            have l1 := classR_lt p rs r hc
            obtain ⟨i1, i2, i3⟩ := classR_sc p h2 rs r hc
            exact key r _ (by omega) i1 (.inr (.inr (.inl ⟨rfl, rfl, i3, i2⟩))) h
        · split at h
          · cases p with
            | nil => cases h
            | cons d p' =>
              obtain ⟨h3, h4⟩ := scs_cons.1 h2
              simp only [List.length_cons] at hn
              exact key p' _ (by omega) h4 (.inr (.inr (.inr ⟨rfl, rfl, h3⟩))) h
          · exact key p _ (by omega) h2 (.inr (.inr (.inr ⟨rfl, rfl, h1⟩))) h

end Go.Proofs.YtcoaoheakeodoaaDoor

/-
  How a pattern is written from its terms: plain functions, and how long it is. Conditions: none beyond those of each theorem.
-/
import Derived.Test.YtcoaoheakeodoaaDoorUtfA
namespace Go.Proofs.YtcoaoheakeodoaaDoor
open Go Go.Lib

def spB (c : Nat) : Bool := decide (c = 42 ∨ c = 63 ∨ c = 91 ∨ c = 92)
/-- Must a character have a backslash in a class? -/
def escB (c : Nat) : Bool := decide (c = 45 ∨ c = 93 ∨ c = 92 ∨ c = 94)
/-- spec.escape. -/
def escW (c : Nat) : Bs := if escB c then 92 :: enc c else enc c
def rangeW (r : Nat × Nat) : Bs := escW r.1 ++ if r.2 = r.1 then [] else 45 :: escW r.2
/-- spec.Body. -/
def bodyW (rs : List (Nat × Nat)) : Bs := rs.flatMap rangeW
/-- spec.Write. -/
def writeW (t : Tm) : Bs :=
  if t.kind = 0 then [42] else if t.kind = 1 then [63]
  else if t.kind = 3 then (if spB t.chr then 92 :: enc t.chr else enc t.chr)
  else if t.neg then 91 :: 94 :: (bodyW t.rs ++ [93]) else 91 :: (bodyW t.rs ++ [93])
/-- spec.WriteAll. -/
def writeA (ts : List Tm) : Bs := ts.flatMap writeW

theorem escW_len (c : Nat) : (escW c).length ≤ 5 := by
  have := enc_len c
  unfold escW
  split <;> simp <;> omega
theorem rangeW_len (r : Nat × Nat) : (rangeW r).length ≤ 11 := by
  have h1 := escW_len r.1
  have h2 := escW_len r.2
  unfold rangeW
  split <;> simp <;> omega
theorem bodyW_len (rs : List (Nat × Nat)) : (bodyW rs).length ≤ 11 * rs.length := by
  induction rs with
  | nil => simp [bodyW]
  | cons r rs ih =>
    have := rangeW_len r
    simp only [bodyW, List.flatMap_cons, List.length_append, List.length_cons] at ih ⊢
    omega
theorem writeW_len (t : Tm) : (writeW t).length ≤ 5 + 11 * t.rs.length := by
  have h1 := enc_len t.chr
  have h2 := bodyW_len t.rs
  unfold writeW
  repeat' split
  all_goals (simp; try omega)
theorem bodyW_snoc (rs : List (Nat × Nat)) (r : Nat × Nat) : bodyW (rs ++ [r]) = bodyW rs ++ rangeW r := by simp [bodyW]
theorem writeA_snoc (ts : List Tm) (t : Tm) : writeA (ts ++ [t]) = writeA ts ++ writeW t := by simp [writeA]
/-- How long the ranges of terms are, all in all. -/
def weight (ts : List Tm) : Nat := (ts.map fun t => 1 + t.rs.length).sum
theorem weight_append (a b : List Tm) : weight (a ++ b) = weight a + weight b := by simp [weight]
theorem weight_cons (t : Tm) (ts : List Tm) : weight (t :: ts) = 1 + t.rs.length + weight ts := by simp [weight]
theorem writeA_len (ts : List Tm) : (writeA ts).length ≤ 11 * weight ts := by
  induction ts with
  | nil => simp [writeA]
  | cons t ts ih =>
    have := writeW_len t
    rw [weight_cons]
    simp only [writeA, List.flatMap_cons, List.length_append] at ih ⊢
    omega
theorem weight_take (ts : List Tm) (k : Nat) : weight (ts.take k) ≤ weight ts := by
  have h := weight_append (ts.take k) (ts.drop k)
  rw [List.take_append_drop] at h
  omega
theorem weight_len (ts : List Tm) : ts.length ≤ weight ts := by
  induction ts with
  | nil => simp
  | cons t ts ih => rw [weight_cons, List.length_cons]; omega

end Go.Proofs.YtcoaoheakeodoaaDoor

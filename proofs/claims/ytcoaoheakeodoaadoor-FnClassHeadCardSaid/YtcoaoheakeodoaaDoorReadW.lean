/-
  How many terms and ranges a pattern has at most; what the writers ask. Conditions: none beyond those of each theorem.
-/
import Derived.Test.YtcoaoheakeodoaaDoorParseT
namespace Go.Proofs.YtcoaoheakeodoaaDoor
open Go Go.Lib

theorem clsR_count : ∀ (n : Nat) (p : List Nat) (k : Nat), p.length ≤ n → ∀ rs t, clsR p k = .good rs t → rs.length + t.length + 1 ≤ p.length
  | _, [], k, _, rs, t, h => by cases h
  | 0, _ :: _, _, h, _, _, _ => by simp at h
  | n + 1, c :: p, k, hn, rs, t, h => by
    rw [clsR_cons] at h
    split at h
    · split at h
      · injection h with h0 h
        subst h
        subst h0
        simp
      · cases h
    · cases h1 : elemR (c :: p) with
      | none => rw [h1] at h; cases h
      | some x =>
        obtain ⟨lo, q⟩ := x
        have l1 := elemR_lt h1
        rw [h1] at h
        simp only at h
        simp only [List.length_cons] at hn l1 ⊢
        split at h
        · split at h
          · cases h
          · cases h2 : elemR q.tail with
            | none => rw [h2] at h; cases h
            | some y =>
              obtain ⟨hi, q2⟩ := y
              have l2 := elemR_lt h2
              have l3 : q.tail.length ≤ q.length := by simp
              rw [h2] at h
              simp only at h
              cases h3 : clsR q2 (k + 1) with
              | bad s => rw [h3] at h; cases h
              | good rs' t' =>
                rw [h3] at h
                injection h with h0 h
                subst h
                subst h0
                have := clsR_count n q2 (k + 1) (by omega) rs' t' h3
                simp only [List.length_cons]
                omega
        · cases h3 : clsR q (k + 1) with
          | bad s => rw [h3] at h; cases h
          | good rs' t' =>
            rw [h3] at h
            injection h with h0 h
            subst h
            subst h0
            have := clsR_count n q (k + 1) (by omega) rs' t' h3
            simp only [List.length_cons]
            omega
theorem classR_count (p : List Nat) (rs : List (Nat × Nat)) (t : List Nat) (h : (classR p).2 = .good rs t) : rs.length + t.length + 1 ≤ p.length := by
  unfold classR at h
  split at h
  · simp only at h
    split at h
    · cases h
    · have := clsR_count _ _ _ (Nat.le_refl _) _ _ h
      have : p.tail.length ≤ p.length := by simp
      omega
  · exact clsR_count _ _ _ (Nat.le_refl _) _ _ h

theorem read_weight : ∀ (n : Nat) (p : List Nat), p.length ≤ n → ∀ ts, readR p = .good ts → weight ts ≤ p.length
  | _, [], _, ts, h => by injection h with h; subst h; simp [weight]
  | 0, _ :: _, h, _, _ => by simp at h
  | n + 1, c :: p, hn, ts, h => by
    simp only [List.length_cons] at hn ⊢
    have key : ∀ (q : List Nat) (t : Tm), q.length ≤ n → t.rs.length + q.length ≤ p.length → (readR q).push t = .good ts → weight ts ≤ p.length + 1 := by
      intro q t hq hw he
      cases hr : readR q with
      | bad s => rw [hr] at he; cases he
      | good us =>
        rw [hr] at he
        injection he with he
        subst he
        have := read_weight n q hq us hr
        rw [weight_cons]
        omega
    rw [readR_cons] at h
    split at h
    · exact key p _ (by omega) (by show 0 + p.length ≤ _; omega) h
    · split at h
      · exact key p _ (by omega) (by show 0 + p.length ≤ _; omega) h
      · split at h
        · cases hc : (classR p).2 with
          | bad s => rw [hc] at h; cases h
          | good rs r =>
            rw [hc] at h
            have l1 := classR_count p rs r hc
            exact key r _ (by omega) (by show rs.length + r.length ≤ _; omega) h
        · split at h
          · cases p with
            | nil => cases h
            | cons d p' =>
              simp only [List.length_cons] at hn ⊢
              exact key p' _ (by omega) (by show 0 + p'.length ≤ p'.length + 1; omega) h
          · exact key p _ (by omega) (by show 0 + p.length ≤ _; omega) h
theorem read_weight' (l : Bs) (ts : List Tm) (h : readR (runes l) = .good ts) : weight ts ≤ l.length := by
  have h1 := read_weight _ _ (Nat.le_refl _) ts h
  have h2 := runes_len _ l (Nat.le_refl _)
  omega

end Go.Proofs.YtcoaoheakeodoaaDoor

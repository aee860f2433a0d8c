/-
  Well-formed patterns and the code's reading: plain laws. Conditions: none beyond those of each theorem.
-/
import Derived.Test.YtcoaoheakeodoaaDoorParseT
import Derived.Test.YtcoaoheakeodoaaDoorReadW
import Derived.Test.YtcoaoheakeodoaaDoorWriteC
import Derived.Test.YtcoaoheakeodoaaDoorImplB
import Derived.Test.YtcoaoheakeodoaaDoorReadD
namespace Go.Proofs.YtcoaoheakeodoaaDoor
open Go Go.Lib

/-- At a valid pattern: malformed for the code exactly if for the reference. -/
theorem bb_valid {p : Bs} (h : validD p = true) : bb p = !rdOk p := by
  obtain ⟨h1, h2⟩ := valid_runes _ p (Nat.le_refl _) h
  have := parse_read (runes p) h1
  rw [h2] at this
  unfold bb rdOk
  rw [this]
  cases readR (runes p) <;> rfl

/-- What a well-formed pattern is. -/
theorem wf_terms {p : Bs} (h : wfB p = true) : ∃ ts, readR (runes p) = .good ts ∧ parse false p = some (exs ts) ∧ (∀ t ∈ ts, goodTm t) ∧ validD p = true ∧ bb p = false := by
  unfold wfB at h
  rw [Bool.and_eq_true] at h
  obtain ⟨hv, ho⟩ := h
  obtain ⟨h1, h2⟩ := valid_runes _ p (Nat.le_refl _) hv
  have hp := parse_read (runes p) h1
  rw [h2] at hp
  unfold rdOk at ho
  cases hr : readR (runes p) with
  | bad s => rw [hr] at ho; cases ho
  | good ts =>
    rw [hr] at hp
    refine ⟨ts, rfl, hp, read_good _ _ (Nat.le_refl _) h1 ts hr, hv, ?_⟩
    unfold bb
    rw [hp]
    rfl

theorem good_ok {t : Tm} (h : goodTm t) : okNum t := by
  rcases h with ⟨_, e⟩ | ⟨_, e⟩ | ⟨k, e, _, hr⟩ | ⟨k, e, hc⟩
  · subst e
    exact ⟨by show (0 : Nat) ≤ 100; omega, by show (0 : Nat) ≤ 2147483647; omega, fun r hr => by cases hr⟩
  · subst e
    exact ⟨by show (1 : Nat) ≤ 100; omega, by show (0 : Nat) ≤ 2147483647; omega, fun r hr => by cases hr⟩
  · refine ⟨by omega, ?_, fun r h => ?_⟩
    · rw [e]; show (0 : Nat) ≤ 2147483647; omega
    · have := hr r h
      unfold sc at this
      omega
  · refine ⟨by omega, ?_, fun r h => ?_⟩
    · unfold sc at hc; omega
    · rw [e] at h; cases h

theorem bb_app {p : Bs} (h : bb p = false) (q : Bs) : bb (p ++ q) = bb q := by
  unfold bb at h ⊢
  cases hp : parse false p with
  | none => rw [hp] at h; cases h
  | some ts =>
    rw [parse_app hp q]
    cases parse false q <;> rfl

end Go.Proofs.YtcoaoheakeodoaaDoor

/-
  The greedy match at patterns of bytes that stand for themselves, and at single stars. Conditions: none beyond those of each theorem.
-/
import Derived.Test.YtcoaoheakeodoaaDoorMatchH
namespace Go.Proofs.YtcoaoheakeodoaaDoor
open Go Go.Lib

def lits (l : Bs) : List Tm := l.map Tm.lit
theorem lits_kind (l : Bs) : ∀ t ∈ lits l, t.kind ≠ 0 := by
  intro t ht
  obtain ⟨b, _, rfl⟩ := List.mem_map.1 ht
  show (4 : Nat) ≠ 0
  decide

/-- Without stars: all of the name, step by step. -/
theorem gm_plain (ts : List Tm) (h : ∀ t ∈ ts, t.kind ≠ 0) (s : Bs) : gm ts s = (steps ts (some s) == some []) := by
  unfold gm
  by_cases h0 : ts = []
  · subst h0
    cases s <;> rfl
  · have := tsplit_plain ts [] h (.inl rfl) h0
    rw [List.append_nil] at this
    rw [this]
    show gmc [(false, ts)] s = _
    have hs : ∀ x : Option Bs, first false ts true s = x → gmc [(false, ts)] s = (match x with | some t => t.isEmpty | none => false) := by
      intro x hx
      show (match first false ts true s with | some t => gmc [] t | none => false) = _
      rw [hx]
      cases x <;> rfl
    cases hst : steps ts (some s) with
    | none =>
      rw [hs none (first_miss false ts true s (fun t h' => by rw [hst] at h'; cases h'))]
      rfl
    | some t =>
      cases t with
      | nil => rw [hs (some []) (first_hit false ts true s [] hst rfl)]; rfl
      | cons b t =>
        rw [hs none (first_miss false ts true s (fun t' h' => by rw [hst] at h'; injection h' with h'; subst h'; rfl))]
        rfl

theorem steps_append (as bs : List Tm) (s : Option Bs) : steps (as ++ bs) s = steps bs (steps as s) := by
  induction as generalizing s with
  | nil => rfl
  | cons a as ih => exact ih _

theorem step_lit (b y : UInt8) (s : Bs) : step (Tm.lit b) (y :: s) = if y = b then some s else none := by
  unfold step
  simp only
  rw [if_neg (by decide), if_neg (by decide), if_pos trivial]
  by_cases h : y = b
  · rw [if_pos h, if_pos (by rw [h])]
  · rw [if_neg h, if_neg (fun e => h (UInt8.toNat_inj.1 e))]

theorem steps_lits : ∀ (l s : Bs), steps (lits l) (some s) = if l <+: s then some (s.drop l.length) else none
  | [], s => by simp [lits, steps]
  | b :: l, [] => by
    have : steps (lits (b :: l)) (some []) = none := by
      show steps (lits l) none = none
      exact steps_none _
    rw [this, if_neg (by simp)]
  | b :: l, y :: s => by
    have : steps (lits (b :: l)) (some (y :: s)) = steps (lits l) (step (Tm.lit b) (y :: s)) := rfl
    rw [this, step_lit]
    by_cases h : y = b
    · subst h
      rw [if_pos rfl, steps_lits l s]
      simp
    · rw [if_neg h, steps_none, if_neg]
      intro hp
      obtain ⟨r, hr⟩ := hp
      injection hr with h1 _
      exact h h1.symm

theorem gm_lits (l s : Bs) : gm (lits l) s = decide (s = l) := by
  rw [gm_plain _ (lits_kind l), steps_lits]
  by_cases h : s = l
  · subst h
    simp
  · simp only [h, decide_false]
    split
    · rename_i hp
      obtain ⟨r, rfl⟩ := hp
      have : (l ++ r).drop l.length = r := by simp
      rw [this]
      cases r with
      | nil => exact absurd (by simp) h
      | cons => rfl
    · rfl

/-- Bytes of which none is special. -/
def plainB (b : UInt8) : Prop := b ≠ 42 ∧ b ≠ 63 ∧ b ≠ 91 ∧ b ≠ 92
theorem parse_plain : ∀ (l : Bs), (∀ b ∈ l, plainB b) → parse false l = some (lits l)
  | [], _ => rfl
  | b :: l, h => by
    obtain ⟨h1, h2, h3, h4⟩ := h b (by simp)
    rw [parse_lit false b l h3 h2 h4 (.inl h1), parse_plain l (fun x hx => h x (by simp [hx]))]
    rfl
theorem parse_quoted (l r : Bs) : parse false (l.flatMap (fun b => [92, b]) ++ r) = (parse false r).map fun ts => lits l ++ ts := by
  induction l with
  | nil => show parse false r = _; cases parse false r <;> rfl
  | cons b l ih =>
    show parse false (92 :: b :: (l.flatMap (fun b => [92, b]) ++ r)) = _
    rw [parse_esc, ih, Option.map_map]
    rfl

end Go.Proofs.YtcoaoheakeodoaaDoor

/-
  A pattern with a backslash before each character that stands for itself: plain law. Conditions: none beyond those of each theorem.
-/
import Derived.Test.YtgpcnckiabjefaaDoorLawT
namespace Go.Proofs.YtgpcnckiabjefaaDoor
open Go Go.Lib Go.RowKit

def escT (t : Tm) : Bs := if t.kind = 3 then quoteB (enc t.chr) else writeW t
def escA (ts : List Tm) : Bs := ts.flatMap escT
theorem escA_snoc (ts : List Tm) (t : Tm) : escA (ts ++ [t]) = escA ts ++ escT t := by simp [escA]
theorem escT_len (t : Tm) : (escT t).length ≤ 20 + 11 * t.rs.length := by
  unfold escT
  split
  · have h1 := quoteB_len (enc t.chr)
    have h2 := (enc_len t.chr).2
    omega
  · have := writeW_len t
    omega
theorem escA_len (ts : List Tm) : (escA ts).length ≤ 20 * weight ts := by
  induction ts with
  | nil => simp [escA]
  | cons t ts ih =>
    have := escT_len t
    rw [weight_cons]
    simp only [escA, List.flatMap_cons, List.length_append] at ih ⊢
    omega
theorem quote_enc {c : Nat} (h : sc c) : quoteB (enc c) = 92 :: enc c := by
  unfold quoteB
  have : runes (enc c) = [c] := by
    have := runes_encs [c] (by intro x hx; simp at hx; subst hx; exact h)
    simpa [encs] using this
  rw [this]
  simp [quoteW]
theorem parse_escT (t : Tm) (h : goodTm t) (r : Bs) : parse false (escT t ++ r) = (parse false r).map fun ts => ex t ++ ts := by
  unfold escT
  by_cases k : t.kind = 3
  · rw [if_pos k]
    have hc : sc t.chr := by
      rcases h with ⟨k', _⟩ | ⟨k', _⟩ | ⟨k', _⟩ | ⟨_, _, hc⟩
      · omega
      · omega
      · omega
      · exact hc
    rw [quote_enc hc]
    have ex' : ex t = lits (enc t.chr) := by unfold ex; rw [if_pos k]
    rw [ex']
    exact parse_escaped t.chr r
  · rw [if_neg k]
    exact parse_write t h r
theorem parse_escA : ∀ (ts : List Tm), (∀ t ∈ ts, goodTm t) → parse false (escA ts) = some (exs ts)
  | [], _ => rfl
  | t :: ts, h => by
    show parse false (escT t ++ escA ts) = _
    rw [parse_escT t (h t (by simp)), parse_escA ts (fun x hx => h x (by simp [hx]))]
    rfl
/-- FnMatchEscaped. -/
theorem law_escaped {p : Bs} {ts : List Tm} (hp : parse false p = some (exs ts)) (hg : ∀ t ∈ ts, goodTm t) (n : Bs) : alikeF p (escA ts) n = true := by
  have h := parse_escA ts hg
  refine alikeF_true (by rw [bb_of hp, bb_of h]) (.inr ?_)
  rw [mm_of hp, mm_of h]

def EscRel (ts : List Tm) (w : World) (out i : Value) (wr : World) : Prop :=
  ∃ (k : Nat) (s : ByteArray), i = .int .i64 (k : Nat) ∧ k ≤ ts.length ∧ out = .string s ∧ s.data.toList = escA (ts.take k) ∧ Below w.heap.size w wr

end Go.Proofs.YtgpcnckiabjefaaDoor

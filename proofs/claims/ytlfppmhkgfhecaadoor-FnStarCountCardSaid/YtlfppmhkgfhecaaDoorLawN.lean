/-
  A character as often as a number between stars; strings.Count: its contract. Conditions: none beyond those of each theorem.
-/
import Derived.Test.YtlfppmhkgfhecaaDoorLawG
import Derived.Test.YtlfppmhkgfhecaaDoorHand
import Derived.Lib.CountLaws
namespace Go.Proofs.YtlfppmhkgfhecaaDoor
open Go.ChangeShapes Go.WideShapes Go.ChangeAt Go.RowKit
open Go Go.Lib

theorem inOrd_count {c : Bs} (hc : c ≠ []) : ∀ (k : Nat) (n : Bs), inOrd (List.replicate k c) n = decide (k ≤ Lib.count n c)
  | 0, n => by simp [inOrd]
  | k + 1, n => by
    show inOrd (c :: List.replicate k c) n = _
    conv => lhs; unfold inOrd
    by_cases h : 0 ≤ Lib.index n c
    · obtain ⟨i, hi⟩ := Int.eq_ofNat_of_zero_le h
      rw [if_pos h, inOrd_count hc k _, count_hit hc hi, hi]
      rw [Bool.eq_iff_iff, decide_eq_true_iff, decide_eq_true_iff]
      show k ≤ Lib.count (n.drop (i + c.length)) c ↔ _
      omega
    · have hge := index_ge n c
      rw [if_neg h, count_miss (by omega)]
      simp
def NS (p : Bs) : Prop := ∃ ts, Tms p ts ∧ noSlashT ts = true
theorem noSlashT_app {ts us : List Tm} (h : noSlashT ts = true) (k : noSlashT us = true) : noSlashT (ts ++ us) = true := by
  unfold noSlashT at *
  rw [Bool.and_eq_true, decide_eq_true_iff] at *
  refine ⟨?_, ?_⟩
  · unfold slashN at *
    rw [List.filter_append, List.length_append]
    omega
  · rw [slashClass_app]
    have h1 := h.2
    have h2 := k.2
    simp at h1 h2 ⊢
    exact ⟨h1, h2⟩
theorem NS.star {p : Bs} (h : NS p) : NS (p ++ [42]) := by
  obtain ⟨ts, T, hs⟩ := h
  exact ⟨_, T.app tms_star, noSlashT_app hs rfl⟩
theorem NS.char {p : Bs} (h : NS p) {c : Nat} (hc : sc c) (h7 : c ≠ 47) : NS (p ++ quoteB (enc c)) := by
  obtain ⟨ts, T, hs⟩ := h
  refine ⟨_, T.app (tms_quote (valid_enc hc)), noSlashT_app hs ?_⟩
  have hr : runes (enc c) = [c] := by
    have := runes_encs [c] (by intro x hx; simp at hx; subst hx; exact hc)
    rw [encs_cons, encs_nil, List.append_nil] at this
    exact this
  rw [hr]
  unfold noSlashT slashN slashClass
  simp [h7]
theorem NS.ord {c : Nat} (hc : sc c) (h7 : c ≠ 47) : ∀ (k : Nat), NS (ordP (List.replicate k (enc c)))
  | 0 => ⟨_, tms_star, rfl⟩
  | k + 1 => by
    rw [List.replicate_succ', ordP_snoc]
    exact ((NS.ord hc h7 k).char hc h7).star
/-- FnStarCount. -/
theorem law_starCount {c : Nat} (hc : sc c) (h7 : c ≠ 47) (k : Nat) (n : Bs) : mm (ordP (List.replicate k (enc c))) n = (decide (k ≤ Lib.count n (enc c)) && !n.contains 47) := by
  by_cases hn : (47 : UInt8) ∈ n
  · have hcon : n.contains 47 = true := List.contains_iff_mem.2 hn
    rw [hcon, Bool.not_true, Bool.and_false]
    cases hm : mm (ordP (List.replicate k (enc c))) n with
    | false => rfl
    | true =>
      obtain ⟨ts, T, hs⟩ := NS.ord hc h7 k
      rw [law_slashNone T hs hm] at hcon
      cases hcon
  · have hcon : n.contains 47 = false := by simpa using hn
    rw [hcon, Bool.not_false, Bool.and_true, law_starOrder (fun s hs => by rw [List.eq_of_mem_replicate hs]; exact valid_enc hc) hn, inOrd_count (enc_ne c)]
theorem first_rune {p : Bs} (hv : validD p = true) (hne : p ≠ []) (h7 : ([47] : Bs).isPrefixOf p = false) : ∃ c, (runes p)[0]? = some c ∧ sc c ∧ c ≠ 47 := by
  obtain ⟨b, n, rfl⟩ := List.exists_cons_of_ne_nil hne
  obtain ⟨e, _, hb⟩ := valid_cons hv
  refine ⟨(dec (b :: n)).1, by rw [e]; rfl, (valid_runes _ _ (Nat.le_refl _) hv).1 _ (by rw [e]; simp), fun h => ?_⟩
  have := hb.2 h
  subst this
  simp [List.isPrefixOf] at h7

theorem countC (P Q : ByteArray) (p q : Bs) (w : World) (hM : MaxAt w) (hP : P.data.toList = p) (hQ : Q.data.toList = q) (hl : p.length ≤ 100000000) (h1 : 1 ≤ q.length) :
    Calls Tryd.prog 35 #[.string P, .string Q] w fun e w' => e = .returned (.int .i64 (Lib.count p q : Nat)) ∧ Below w.heap.size w w' := by
  subst hP hQ
  obtain ⟨m, hm⟩ := hM
  refine (Tryd.strings_Count_any P Q m w (by rw [Lib.size_eq]; omega) hm (by rw [Lib.size_eq]; exact h1)).mono ?_
  rintro e w' ⟨rfl, rfl⟩
  exact ⟨rfl, Below.refl _ _⟩

end Go.Proofs.YtlfppmhkgfhecaaDoor

/-
  Terms without a star: they match a name if each admits its character. Conditions: none beyond those of each theorem.
-/
import Derived.StillTailTactics
import Derived.Test.YtgpcnckiabjefaaDoorSoundC
import Derived.Test.YtgpcnckiabjefaaDoorLawT
import Derived.Test.YtgpcnckiabjefaaDoorAdmits
namespace Go.Proofs.YtgpcnckiabjefaaDoor
open Go Go.Lib

def fitAll (ts : List Tm) (s : List Nat) : Bool := decide (s.length = ts.length) && (List.zipWith adm ts s).all id

theorem mtr_noStar : ∀ (ts : List Tm) (s : List Nat), (∀ t ∈ ts, t.kind ≠ 0) → mtr ts s = fitAll ts s
  | [], s, _ => by
    show s.isEmpty = _
    cases s <;> simp [fitAll]
  | t :: ts, [], h => by
    show (if t.kind = 0 then fitStar (mtr ts) [] else fitOne t (mtr ts) []) = _
    rw [if_neg (h t (by simp))]
    simp [fitOne, fitAll]
  | t :: ts, c :: s, h => by
    have ih := mtr_noStar ts s (fun x hx => h x (by simp [hx]))
    show (if t.kind = 0 then fitStar (mtr ts) (c :: s) else fitOne t (mtr ts) (c :: s)) = _
    rw [if_neg (h t (by simp))]
    show (adm t c && mtr ts s) = _
    rw [ih]
    unfold fitAll
    simp only [List.length_cons, List.zipWith_cons_cons, List.all_cons, id]
    cases adm t c <;> cases (List.zipWith adm ts s).all id <;> simp

theorem openStar_noStar : ∀ (ts : List Tm), (∀ t ∈ ts, t.kind ≠ 0) → openStar ts = false
  | [], _ => rfl
  | [_], _ => rfl
  | a :: b :: ts, h => by
    have ih := openStar_noStar (b :: ts) (fun x hx => h x (by simp only [List.mem_cons] at hx ⊢; exact .inr hx))
    have ha := h a (by simp)
    show ((decide (a.kind = 0) && (decide (b.kind = 1) || decide (b.kind = 2))) || openStar (b :: ts)) = false
    rw [ih, decide_eq_false ha]
    rfl

theorem starRuns_noStar : ∀ (ts : List Tm) (b : Bool), (∀ t ∈ ts, t.kind ≠ 0) → starRuns b ts = 0
  | [], b, _ => by cases b <;> rfl
  | t :: ts, b, h => by
    have ih := starRuns_noStar ts false (fun x hx => h x (by simp [hx]))
    have ht := h t (by simp)
    unfold starRuns
    simp [ht, ih]

/-- FnNoStar. -/
theorem gm_noStar (ts : List Tm) (s : List Nat) (hg : ∀ t ∈ ts, goodTm t) (hs : scs s) (h : ∀ t ∈ ts, t.kind ≠ 0) : gm (exs ts) (encs s) = fitAll ts s := by
  rw [gm_sound ts s hg hs (.inr (openStar_noStar ts h)), gmR_decided ts s hg (.inr (.inr (by rw [starRuns_noStar ts false h]; omega))), mtr_noStar ts s h]

/-- As the loop goes: k terms seen. -/
def fitUpto (ts : List Tm) (s : List Nat) (k : Nat) : Bool := decide (s.length = ts.length) && (List.zipWith adm (ts.take k) (s.take k)).all id
theorem fitUpto_zero (ts : List Tm) (s : List Nat) : fitUpto ts s 0 = decide (s.length = ts.length) := by simp [fitUpto]
theorem fitUpto_succ (ts : List Tm) (s : List Nat) (k : Nat) (t : Tm) (c : Nat) (ht : ts[k]? = some t) (hc : s[k]? = some c) (h : fitUpto ts s k = true) : fitUpto ts s (k + 1) = adm t c := by
  unfold fitUpto at h ⊢
  rw [Bool.and_eq_true] at h
  obtain ⟨h1, h2⟩ := h
  have e1 : ts.take (k + 1) = ts.take k ++ [t] := by rw [List.take_add_one, ht]; rfl
  have e2 : s.take (k + 1) = s.take k ++ [c] := by rw [List.take_add_one, hc]; rfl
  have hlen : (ts.take k).length = (s.take k).length := by
    have := of_decide_eq_true h1
    rw [List.length_take, List.length_take, this]
  rw [h1, e1, e2, List.zipWith_append hlen, List.all_append, h2]
  simp
theorem fitUpto_all (ts : List Tm) (s : List Nat) : fitUpto ts s ts.length = fitAll ts s := by
  unfold fitUpto fitAll
  by_cases h : s.length = ts.length
  · rw [List.take_length, List.take_of_length_le (by omega)]
  · rw [decide_eq_false h]
    rfl
theorem fitUpto_false (ts : List Tm) (s : List Nat) (k : Nat) (h : fitUpto ts s k = false) : fitAll ts s = false := by
  unfold fitUpto at h
  unfold fitAll
  by_cases hl : s.length = ts.length
  · rw [decide_eq_true hl, Bool.true_and] at h ⊢
    have e1 : List.zipWith adm ts s = List.zipWith adm (ts.take k) (s.take k) ++ List.zipWith adm (ts.drop k) (s.drop k) := by
      rw [← List.zipWith_append (by rw [List.length_take, List.length_take, hl]), List.take_append_drop, List.take_append_drop]
    rw [e1, List.all_append, h]
    rfl
  · rw [decide_eq_false hl]
    rfl

theorem int_beq (a b : Nat) : ((a : Int) == (b : Int)) = decide (a = b) := by
  by_cases h : a = b
  · simp [h]
  · have h2 : (a : Int) ≠ b := by omega
    simp [h, h2]
theorem starN_zero {ts : List Tm} (h : starN ts = 0) : ∀ t ∈ ts, t.kind ≠ 0 := by
  intro t ht h0
  unfold starN at h
  have := List.length_eq_zero_iff.1 h
  rw [List.filter_eq_nil_iff] at this
  exact this t ht (by simpa using h0)

end Go.Proofs.YtgpcnckiabjefaaDoor

/-
  What the laws say of the code's own match, plainly. Conditions: none beyond those of each theorem.
-/
import Derived.Test.YtcoaoheakeodoaaDoorHeadT
import Derived.Test.YtcoaoheakeodoaaDoorWfT
namespace Go.Proofs.YtcoaoheakeodoaaDoor
open Go Go.Lib

theorem mm_of {p : Bs} {ts : List Tm} (h : parse false p = some ts) (s : Bs) : mm p s = gm ts s := by rw [mm_eq, h]
theorem bb_of {p : Bs} {ts : List Tm} (h : parse false p = some ts) : bb p = false := by unfold bb; rw [h]; rfl
theorem bb_some {p : Bs} (h : bb p = false) : ∃ ts, parse false p = some ts := by
  unfold bb at h
  cases hp : parse false p with
  | none => rw [hp] at h; cases h
  | some ts => exact ⟨ts, rfl⟩

/-- A term that is no star before a well-formed pattern. -/
theorem mm_cons {H p : Bs} {t : Tm} (hH : parse false H = some [t]) (ht : t.kind ≠ 0) (hb : bb p = false) (s : Bs) : bb (H ++ p) = false ∧ mm (H ++ p) s = match step t s with | some s' => mm p s' | none => false := by
  obtain ⟨ts, hp⟩ := bb_some hb
  have h : parse false (H ++ p) = some (t :: ts) := by
    rw [parse_app hH, hp]
    rfl
  refine ⟨bb_of h, ?_⟩
  rw [mm_of h, gm_cons t ts ht]
  cases step t s with
  | none => rfl
  | some s' => exact (mm_of hp s').symm

theorem parse_empty_range : parse false [91, 98, 45, 97, 93] = some [Tm.cls false [(98, 97)]] := by rfl
theorem parse_all_range : parse false [91, 94, 98, 45, 97, 93] = some [Tm.cls true [(98, 97)]] := by rfl
theorem parse_slash_range : parse false [91, 46, 45, 48, 93] = some [Tm.cls false [(46, 48)]] := by rfl
theorem parse_noslash_range : parse false [91, 94, 46, 45, 48, 93] = some [Tm.cls true [(46, 48)]] := by rfl
theorem parse_quest : parse false [63] = some [Tm.any] := by rfl

theorem inR_empty (c : Nat) : inR [(98, 97)] c = false := by
  unfold inR
  simp
  omega
theorem step_empty (s : Bs) : step (Tm.cls false [(98, 97)]) s = none := by
  cases s with
  | nil => rfl
  | cons b s =>
    unfold step
    simp only
    rw [if_neg (by decide), if_pos trivial, inR_empty, if_pos rfl]
theorem dec_slash (n : Bs) : dec (47 :: n) = (47, 1) := dec_ascii 47 n (by decide)
theorem step_all_slash (n : Bs) : step (Tm.cls true [(98, 97)]) (47 :: n) = some n := by
  unfold step
  simp only
  rw [if_neg (by decide), if_pos trivial, inR_empty, if_neg (by decide), dec_slash]
  rfl
theorem step_slash (n : Bs) : step (Tm.cls false [(46, 48)]) (47 :: n) = some n := by
  unfold step
  simp only
  rw [if_neg (by decide), if_pos trivial, dec_slash, if_neg (by decide)]
  rfl
theorem step_noslash (n : Bs) : step (Tm.cls true [(46, 48)]) (47 :: n) = none := by
  unfold step
  simp only
  rw [if_neg (by decide), if_pos trivial, dec_slash, if_pos (by decide)]
theorem step_any_slash (n : Bs) : step Tm.any (47 :: n) = none := by
  unfold step
  simp

/-- FnClassEmptyRange. -/
theorem law_emptyRange {p q : Bs} (hp : bb p = false) (hq : bb q = false) (n : Bs) : mm (p ++ [91, 98, 45, 97, 93] ++ q) n = false ∧ bb (p ++ [91, 98, 45, 97, 93] ++ q) = false := by
  obtain ⟨ts, h1⟩ := bb_some hp
  obtain ⟨us, h2⟩ := bb_some hq
  have h3 : parse false (p ++ [91, 98, 45, 97, 93]) = some (ts ++ [Tm.cls false [(98, 97)]]) := by
    rw [parse_app h1, parse_empty_range]
    rfl
  have h : parse false (p ++ [91, 98, 45, 97, 93] ++ q) = some (ts ++ [Tm.cls false [(98, 97)]] ++ us) := by
    rw [parse_app h3, h2]
    rfl
  exact ⟨by rw [mm_of h]; exact gm_never _ (by decide) step_empty _ (by simp) n, bb_of h⟩

/-- FnClassSlash. -/
theorem law_classSlash {p : Bs} (hp : bb p = false) (n : Bs) : mm ([91, 94, 98, 45, 97, 93] ++ p) (47 :: n) = mm p n ∧ mm ([91, 46, 45, 48, 93] ++ p) (47 :: n) = mm p n ∧ mm ([63] ++ p) (47 :: n) = false ∧ mm ([91, 94, 46, 45, 48, 93] ++ p) (47 :: n) = false := by
  refine ⟨?_, ?_, ?_, ?_⟩
  · rw [(mm_cons parse_all_range (by decide) hp _).2, step_all_slash]
  · rw [(mm_cons parse_slash_range (by decide) hp _).2, step_slash]
  · rw [(mm_cons parse_quest (by decide) hp _).2, step_any_slash]
  · rw [(mm_cons parse_noslash_range (by decide) hp _).2, step_noslash]

theorem step_any (b : UInt8) (n : Bs) : step Tm.any (b :: n) = if b = 47 then none else some ((b :: n).drop (dec (b :: n)).2) := by
  unfold step
  simp

/-- FnAnyHead. -/
theorem law_anyHead {p : Bs} (hp : bb p = false) : mm ([63] ++ p) [] = false ∧ ∀ b n, mm ([63] ++ p) (b :: n) = (decide (b ≠ 47) && mm p ((b :: n).drop (dec (b :: n)).2)) := by
  refine ⟨by rw [(mm_cons parse_quest (by decide) hp _).2]; rfl, fun b n => ?_⟩
  rw [(mm_cons parse_quest (by decide) hp _).2, step_any]
  by_cases h : b = 47
  · rw [if_pos h]
    simp [h]
  · rw [if_neg h]
    simp [h]

/-- FnStarTwice. -/
theorem law_starTwice {p : Bs} (hp : bb p = false) (q n : Bs) : alikeF (p ++ [42, 42] ++ q) (p ++ [42] ++ q) n = true := by
  obtain ⟨ts, h1⟩ := bb_some hp
  have a : parse false (p ++ [42, 42] ++ q) = (parse false q).map fun us => ts ++ Tm.star :: Tm.star :: us := by
    rw [List.append_assoc, parse_app h1]
    show ((parse false (42 :: 42 :: q))).map _ = _
    rw [parse_star, parse_star, Option.map_map, Option.map_map]
    rfl
  have b : parse false (p ++ [42] ++ q) = (parse false q).map fun us => ts ++ Tm.star :: us := by
    rw [List.append_assoc, parse_app h1]
    show ((parse false (42 :: q))).map _ = _
    rw [parse_star, Option.map_map]
    rfl
  refine alikeF_true ?_ ?_
  · unfold bb
    rw [a, b]
    cases parse false q <;> rfl
  · right
    rw [mm_eq, mm_eq, a, b]
    cases parse false q with
    | none => rfl
    | some us => exact gm_two ts us n

/-- Characters with a backslash before each: spec.Quote. -/
def quoteW (cs : List Nat) : Bs := cs.flatMap fun c => 92 :: enc c
theorem quoteW_len (cs : List Nat) : (quoteW cs).length ≤ 5 * cs.length := by
  induction cs with
  | nil => simp [quoteW]
  | cons c cs ih =>
    have := enc_len c
    simp only [quoteW, List.flatMap_cons, List.length_append, List.length_cons] at ih ⊢
    omega
theorem parse_quote (cs : List Nat) (r : Bs) : parse false (quoteW cs ++ r) = (parse false r).map fun ts => lits (encs cs) ++ ts := by
  induction cs with
  | nil => show parse false r = _; cases parse false r <;> rfl
  | cons c cs ih =>
    have e : quoteW (c :: cs) ++ r = 92 :: (enc c ++ (quoteW cs ++ r)) := by simp [quoteW]
    rw [e, parse_escaped, ih, Option.map_map]
    cases parse false r with
    | none => rfl
    | some ts =>
      show some _ = some _
      rw [encs_cons]
      simp [lits]
/-- What spec.Quote makes of a text. -/
def quoteB (a : Bs) : Bs := quoteW (runes a)
theorem quoteB_len (a : Bs) : (quoteB a).length ≤ 5 * a.length := by
  have h1 := quoteW_len (runes a)
  have h2 := runes_len _ a (Nat.le_refl _)
  unfold quoteB
  omega
theorem parse_quoteB {a : Bs} (ha : validD a = true) (r : Bs) : parse false (quoteB a ++ r) = (parse false r).map fun ts => lits a ++ ts := by
  unfold quoteB
  rw [parse_quote, (valid_runes _ a (Nat.le_refl _) ha).2]

/-- FnQuoteSelf. -/
theorem law_quoteSelf {a : Bs} (ha : validD a = true) (b : Bs) : mm (quoteB a) b = decide (b = a) ∧ bb (quoteB a) = false := by
  have h := parse_quoteB ha []
  rw [List.append_nil] at h
  have h1 : parse false (quoteB a) = some (lits a) := by
    rw [h, parse_nil]
    show some (lits a ++ []) = _
    rw [List.append_nil]
  exact ⟨by rw [mm_of h1]; exact gm_lits a b, bb_of h1⟩
/-- FnQuoteHead. -/
theorem law_quoteHead {a : Bs} (ha : validD a = true) (p n : Bs) : bb (quoteB a ++ p) = bb p ∧ mm (quoteB a ++ p) (a ++ n) = mm p n := by
  have h := parse_quoteB ha p
  refine ⟨?_, ?_⟩
  · unfold bb
    rw [h]
    cases parse false p <;> rfl
  · rw [mm_eq, mm_eq, h]
    cases parse false p with
    | none => rfl
    | some ts =>
      show gm (lits a ++ ts) (a ++ n) = gm ts n
      rw [gm_lits_append, if_pos ⟨n, rfl⟩]
      simp
/-- FnQuoteHeadOther. -/
theorem law_quoteOther {a : Bs} (ha : validD a = true) (p n : Bs) (hn : ¬ a <+: n) : mm (quoteB a ++ p) n = false := by
  have h := parse_quoteB ha p
  rw [mm_eq, h]
  cases parse false p with
  | none => rfl
  | some ts =>
    show gm (lits a ++ ts) n = false
    rw [gm_lits_append, if_neg hn]

/-- FnWrittenBytes. -/
theorem law_written {p : Bs} {ts : List Tm} (hp : parse false p = some (exs ts)) (hg : ∀ t ∈ ts, goodTm t) (n : Bs) : alikeF p (writeA ts) n = true := by
  have h := parse_writeA ts hg
  refine alikeF_true (by rw [bb_of hp, bb_of h]) (.inr ?_)
  rw [mm_of hp, mm_of h]

/-- FnStarAlone. -/
theorem law_star (n : Bs) : mm [42] n = !n.contains 47 ∧ bb [42] = false := by
  have h : parse false [42] = some [Tm.star] := by rfl
  exact ⟨by rw [mm_of h]; exact gm_star n, bb_of h⟩

end Go.Proofs.YtcoaoheakeodoaaDoor

/-
  The law of a and b exchanged. Conditions: none beyond those of each theorem.
-/
import Derived.Test.YtnjinkbhepimkaaDoorLawG
namespace Go.Proofs.YtnjinkbhepimkaaDoor
open Go Go.Lib

def xn (c : Nat) : Nat := if c = 97 then 98 else if c = 98 then 97 else c
def xb (b : UInt8) : UInt8 := if b = 97 then 98 else if b = 98 then 97 else b
theorem xb_toNat (b : UInt8) : (xb b).toNat = xn b.toNat := by
  unfold xb xn
  by_cases h1 : b = 97
  · subst h1; rfl
  · by_cases h2 : b = 98
    · subst h2; rfl
    · have e1 : ¬ b.toNat = 97 := fun e => h1 (UInt8.toNat_inj.1 e)
      have e2 : ¬ b.toNat = 98 := fun e => h2 (UInt8.toNat_inj.1 e)
      rw [if_neg h1, if_neg h2, if_neg e1, if_neg e2]
theorem xn_inj {a b : Nat} (h : xn a = xn b) : a = b := by
  unfold xn at h
  repeat' split at h
  all_goals omega
theorem xn_eq (a b : Nat) : xn a = xn b ↔ a = b := ⟨xn_inj, fun h => by rw [h]⟩
theorem xb_eq (b k : UInt8) (h1 : k ≠ 97) (h2 : k ≠ 98) : xb b = k ↔ b = k := by
  unfold xb
  by_cases e1 : b = 97
  · subst e1
    rw [if_pos rfl]
    exact ⟨fun h => absurd h.symm h2, fun h => absurd h.symm h1⟩
  · by_cases e2 : b = 98
    · subst e2
      rw [if_neg e1, if_pos rfl]
      exact ⟨fun h => absurd h.symm h1, fun h => absurd h.symm h2⟩
    · rw [if_neg e1, if_neg e2]
theorem xn_class (c : Nat) : (c < 128 ∧ xn c < 128 ∧ c / 64 ≠ 2 ∧ xn c / 64 ≠ 2) ∨ xn c = c := by
  unfold xn
  split
  · left; omega
  · split
    · left; omega
    · exact .inr rfl
theorem xn_two (c : Nat) : xn c / 64 = 2 ↔ c / 64 = 2 := by
  rcases xn_class c with ⟨_, _, h1, h2⟩ | h
  · exact ⟨fun h => absurd h h2, fun h => absurd h h1⟩
  · rw [h]
theorem xn_same {c : Nat} (h : c / 64 = 2) : xn c = c := by
  rcases xn_class c with ⟨_, _, h1, _⟩ | h'
  · exact absurd h h1
  · exact h'
theorem decodeN_x (n b0 b1 b2 b3 : Nat) : (decodeN n (xn b0) (xn b1) (xn b2) (xn b3)).2 = (decodeN n b0 b1 b2 b3).2 := by
  rcases xn_class b0 with ⟨h1, h2, _⟩ | h
  · unfold decodeN
    rw [if_pos h1, if_pos h2]
  · rw [h]
    unfold decodeN
    by_cases c0 : b0 < 128
    · rw [if_pos c0, if_pos c0]
    · rw [if_neg c0, if_neg c0]
      simp only [xn_two]
      by_cases c1 : b0 / 32 = 6 ∧ (1 < n ∧ b1 / 64 = 2)
      · rw [if_pos c1, if_pos c1, xn_same c1.2.2]
      · rw [if_neg c1, if_neg c1]
        by_cases c2 : b0 / 16 = 14 ∧ (1 < n ∧ b1 / 64 = 2) ∧ (2 < n ∧ b2 / 64 = 2)
        · rw [if_pos c2, if_pos c2, xn_same c2.2.1.2, xn_same c2.2.2.2]
        · rw [if_neg c2, if_neg c2]
          by_cases c3 : b0 / 8 = 30 ∧ (1 < n ∧ b1 / 64 = 2) ∧ (2 < n ∧ b2 / 64 = 2) ∧ (3 < n ∧ b3 / 64 = 2)
          · rw [if_pos c3, if_pos c3, xn_same c3.2.1.2, xn_same c3.2.2.1.2, xn_same c3.2.2.2.2]
          · rw [if_neg c3, if_neg c3]
theorem getD_x (l : Bs) (k : Nat) : ((l.map xb).getD k 0).toNat = xn (l.getD k 0).toNat := by
  rw [List.getD_eq_getElem?_getD, List.getD_eq_getElem?_getD, List.getElem?_map]
  cases l[k]? with
  | none => rfl
  | some b => exact xb_toNat b
theorem dec_x (l : Bs) : (dec (l.map xb)).2 = (dec l).2 := by
  unfold dec
  by_cases h : l = []
  · subst h; rfl
  · rw [if_neg h, if_neg (by simpa using h), decodeL_N, decodeL_N, getD_x, getD_x, getD_x, getD_x, List.length_map]
    exact decodeN_x _ _ _ _ _

/-- Terms that are stars, question marks or bytes. -/
def byteT (t : Tm) : Prop := t.kind = 0 ∨ t.kind = 1 ∨ t.kind = 4
def xT (t : Tm) : Tm := if t.kind = 4 then { t with chr := xn t.chr } else t
theorem xT_kind (t : Tm) : (xT t).kind = t.kind := by
  unfold xT
  split <;> rfl
theorem step_x {t : Tm} (h : byteT t) (s : Bs) : step (xT t) (s.map xb) = (step t s).map (List.map xb) := by
  cases s with
  | nil => rfl
  | cons b s =>
    show step (xT t) (xb b :: s.map xb) = _
    unfold step
    simp only [xT_kind]
    have e : (xb b :: s.map xb) = (b :: s).map xb := rfl
    rcases h with h | h | h
    · have e1 : ¬ t.kind = 1 := by omega
      have e2 : ¬ t.kind = 2 := by omega
      have e4 : ¬ t.kind = 4 := by omega
      rw [if_neg e1, if_neg e2, if_neg e4, if_neg e1, if_neg e2, if_neg e4]
      rfl
    · rw [if_pos h, if_pos h]
      by_cases h7 : b = 47
      · rw [if_pos h7, if_pos ((xb_eq b 47 (by decide) (by decide)).2 h7)]
        rfl
      · rw [if_neg h7, if_neg (fun c => h7 ((xb_eq b 47 (by decide) (by decide)).1 c)), e, dec_x, ← List.map_drop]
        rfl
    · have e1 : ¬ t.kind = 1 := by omega
      have e2 : ¬ t.kind = 2 := by omega
      have ec : (xT t).chr = xn t.chr := by unfold xT; rw [if_pos h]
      rw [if_neg e1, if_neg e2, if_pos h, if_neg e1, if_neg e2, if_pos h, ec, xb_toNat]
      by_cases hb : b.toNat = t.chr
      · rw [if_pos hb, if_pos (by rw [hb])]
        rfl
      · rw [if_neg hb, if_neg (fun c => hb (xn_inj c))]
        rfl
theorem steps_x : ∀ (ts : List Tm), (∀ t ∈ ts, byteT t) → ∀ (s : Option Bs), steps (ts.map xT) (s.map (List.map xb)) = (steps ts s).map (List.map xb)
  | [], _, _ => rfl
  | t :: ts, h, s => by
    show steps (ts.map xT) ((s.map (List.map xb)).bind (step (xT t))) = (steps ts (s.bind (step t))).map (List.map xb)
    have e : (s.map (List.map xb)).bind (step (xT t)) = (s.bind (step t)).map (List.map xb) := by
      cases s with
      | none => rfl
      | some s => exact step_x (h t (by simp)) s
    rw [e]
    exact steps_x ts (fun x hx => h x (by simp [hx])) _
theorem empty_x (l : Bs) : (l.map xb).isEmpty = l.isEmpty := by cases l <;> rfl
theorem first_x (star last : Bool) (ts : List Tm) (h : ∀ t ∈ ts, byteT t) : ∀ (s : Bs), first star (ts.map xT) last (s.map xb) = (first star ts last s).map (List.map xb)
  | [] => by
    have e := steps_x ts h (some [])
    have e' : steps (ts.map xT) (some []) = (steps ts (some [])).map (List.map xb) := e
    show first star (ts.map xT) last [] = _
    unfold first
    rw [e']
    cases steps ts (some []) with
    | none => rfl
    | some t =>
      simp only [Option.map_some, empty_x]
      split <;> rfl
  | b :: s => by
    have e := steps_x ts h (some (b :: s))
    have e' : steps (ts.map xT) (some (xb b :: s.map xb)) = (steps ts (some (b :: s))).map (List.map xb) := e
    have ih := first_x star last ts h s
    have e7 : (xb b != 47) = (b != 47) := by
      rw [Bool.eq_iff_iff, bne_iff_ne, bne_iff_ne, ne_eq, ne_eq, xb_eq b 47 (by decide) (by decide)]
    show first star (ts.map xT) last (xb b :: s.map xb) = _
    unfold first
    rw [e', ih, e7]
    cases steps ts (some (b :: s)) with
    | none =>
      simp only [Option.map_none]
      split <;> rfl
    | some t =>
      simp only [Option.map_some, empty_x]
      split
      · split <;> rfl
      · rfl
theorem gmc_x : ∀ (cs : List (Bool × List Tm)), (∀ x ∈ cs, ∀ t ∈ x.2, byteT t) → ∀ (s : Bs), gmc (cs.map fun x => (x.1, x.2.map xT)) (s.map xb) = gmc cs s
  | [], _, s => empty_x s
  | (star, ts) :: cs, h, s => by
    show gmc ((star, ts.map xT) :: cs.map fun x => (x.1, x.2.map xT)) (s.map xb) = _
    have he : (cs.map fun x => (x.1, x.2.map xT)).isEmpty = cs.isEmpty := by cases cs <;> rfl
    unfold gmc
    rw [he, first_x star cs.isEmpty ts (h (star, ts) (by simp)) s]
    cases first star ts cs.isEmpty s with
    | none => rfl
    | some t => exact gmc_x cs (fun x hx => h x (by simp [hx])) t
theorem tsplit_x : ∀ (ts : List Tm), tsplit (ts.map xT) = (tsplit ts).map fun x => (x.1, x.2.map xT)
  | [] => rfl
  | t :: ts => by
    have ih := tsplit_x ts
    show tsplit (xT t :: ts.map xT) = _
    unfold tsplit
    rw [xT_kind, ih]
    split
    · cases tsplit ts with
      | nil => rfl
      | cons x cs =>
        obtain ⟨b, c⟩ := x
        cases b <;> rfl
    · cases tsplit ts with
      | nil => rfl
      | cons x cs =>
        obtain ⟨b, c⟩ := x
        cases b <;> rfl
theorem gm_x (ts : List Tm) (h : ∀ t ∈ ts, byteT t) (s : Bs) : gm (ts.map xT) (s.map xb) = gm ts s := by
  unfold gm
  rw [tsplit_x]
  exact gmc_x _ (fun x hx t ht => (tsplit_all byteT ts h x hx t ht).1) s
theorem parse_x : ∀ (n : Nat) (p : Bs), p.length ≤ n → ∀ ts, parse false p = some ts → (∀ t ∈ ts, t.kind ≠ 2) → parse false (p.map xb) = some (ts.map xT)
  | _, [], _, ts, h, _ => by
    injection h with h
    subst h
    rfl
  | 0, _ :: _, h, _, _, _ => by simp at h
  | n + 1, b :: p, hn, ts, h, hk => by
    simp only [List.length_cons] at hn
    show parse false (xb b :: p.map xb) = _
    have x1 := xb_eq b 91 (by decide) (by decide)
    have x2 := xb_eq b 63 (by decide) (by decide)
    have x3 := xb_eq b 92 (by decide) (by decide)
    have x4 := xb_eq b 42 (by decide) (by decide)
    have key : ∀ (u : Tm) (q : Bs), q.length ≤ n → (parse false q).map (fun x => u :: x) = some ts → (parse false (q.map xb)).map (fun x => xT u :: x) = some (ts.map xT) := by
      intro u q hq hu
      cases hp : parse false q with
      | none => rw [hp] at hu; cases hu
      | some us =>
        rw [hp] at hu
        injection hu with hu
        subst hu
        rw [parse_x n q hq us hp (fun t ht => hk t (by simp [ht]))]
        rfl
    rw [parse_cons] at h ⊢
    by_cases c1 : b = 91
    · rw [if_pos c1] at h
      cases hr : ranges (classHead p).2 0 with
      | none => rw [hr] at h; cases h
      | some x =>
        obtain ⟨rs, r⟩ := x
        rw [hr] at h
        simp only at h
        cases hp : parse false r with
        | none => rw [hp] at h; cases h
        | some us =>
          rw [hp] at h
          injection h with h
          subst h
          exact absurd rfl (hk _ (List.mem_cons_self ..))
    · rw [if_neg c1] at h
      rw [if_neg (fun e => c1 (x1.1 e))]
      by_cases c2 : b = 63
      · rw [if_pos c2] at h
        rw [if_pos (x2.2 c2)]
        exact key Tm.any p (by omega) h
      · rw [if_neg c2] at h
        rw [if_neg (fun e => c2 (x2.1 e))]
        by_cases c3 : b = 92
        · rw [if_pos c3] at h
          rw [if_pos (x3.2 c3)]
          cases p with
          | nil => cases h
          | cons c p' =>
            simp only [List.length_cons] at hn
            have := key (Tm.lit c) p' (by omega) h
            have e : xT (Tm.lit c) = Tm.lit (xb c) := by
              show ({ kind := 4, chr := xn c.toNat } : Tm) = _
              rw [← xb_toNat]
            rw [e] at this
            exact this
        · rw [if_neg c3] at h
          rw [if_neg (fun e => c3 (x3.1 e))]
          by_cases c4 : b = 42
          · rw [if_pos ⟨c4, rfl⟩] at h
            rw [if_pos ⟨x4.2 c4, rfl⟩]
            exact key Tm.star p (by omega) h
          · rw [if_neg (fun e => c4 e.1)] at h
            rw [if_neg (fun e => c4 (x4.1 e.1))]
            have := key (Tm.lit b) p (by omega) h
            have e : xT (Tm.lit b) = Tm.lit (xb b) := by
              show ({ kind := 4, chr := xn b.toNat } : Tm) = _
              rw [← xb_toNat]
            rw [e] at this
            exact this
/-- FnExchanged. -/
theorem law_exchanged {p : Bs} {ts : List Tm} (hp : parse false p = some (exs ts)) (hg : ∀ t ∈ ts, goodTm t) (hk : ∀ t ∈ ts, t.kind ≠ 2) (n : Bs) : mm p n = mm (p.map xb) (n.map xb) := by
  have hb : ∀ t ∈ exs ts, byteT t := by
    intro t ht
    obtain ⟨u, hu, hm⟩ := List.mem_flatMap.1 ht
    have h2 := hk u hu
    have h3 := good_kind (hg u hu)
    unfold ex at hm
    split at hm
    · obtain ⟨b, _, rfl⟩ := List.mem_map.1 hm
      exact .inr (.inr rfl)
    · rw [List.mem_singleton.1 hm]
      unfold byteT
      omega
  have h2 := parse_x _ p (Nat.le_refl _) _ hp (fun t ht => by have := hb t ht; unfold byteT at this; omega)
  rw [mm_of hp, mm_of h2, gm_x _ hb]

end Go.Proofs.YtnjinkbhepimkaaDoor

/-
  Patterns one behind the other; a pattern that is written from its terms reads as these. Conditions: none beyond those of each theorem.
-/
import Derived.Test.YtcoaoheakeodoaaDoorDivide
import Derived.Test.YtcoaoheakeodoaaDoorWriteT
namespace Go.Proofs.YtcoaoheakeodoaaDoor
open Go Go.Lib

theorem dec_append {d : Bs} (hne : d ≠ []) (h : ¬ badDec d) (q : Bs) : dec (d ++ q) = dec d := by
  have hl := List.length_pos_iff.2 hne
  have := dec_take (d ++ q) d.length (by omega) (by simp)
  rw [List.take_left] at this
  by_cases hc : (dec (d ++ q)).2 ≤ d.length
  · rw [if_pos hc] at this
    exact this.symm
  · rw [if_neg hc] at this
    exact absurd (show badDec d from by unfold badDec; rw [this]; exact ⟨rfl, rfl⟩) h

theorem escOf_append {d : Bs} {r : Nat} {d' : Bs} (h : escOf d = some (r, d')) (q : Bs) : escOf (d ++ q) = some (r, d' ++ q) := by
  unfold escOf at h
  split at h
  · cases h
  · rename_i h1
    split at h
    · cases h
    · rename_i h2
      split at h
      · cases h
      · rename_i h3
        injection h with h
        injection h with e1 e2
        have hd := dec_append h1 h2 q
        have hle := dec_le d
        have hdr : (d ++ q).drop (dec d).2 = d.drop (dec d).2 ++ q := by rw [List.drop_append_of_le_length hle]
        unfold escOf
        rw [if_neg (by simp [h1]), if_neg (by unfold badDec at h2 ⊢; rw [hd]; exact h2), hd, hdr, if_neg (by simp [h3]), e1, e2]

theorem getEsc_append {c : Bs} {r : Nat} {c' : Bs} (h : getEsc c = some (r, c')) (q : Bs) : getEsc (c ++ q) = some (r, c' ++ q) := by
  rw [getEsc_of] at h ⊢
  split at h
  · cases h
  · rename_i h1
    cases c with
    | nil => exact absurd rfl h1
    | cons b c =>
      rw [if_neg (by simp)]
      have hh : ((b :: c) ++ q).head? = (b :: c).head? := rfl
      have ht : ((b :: c) ++ q).tail = (b :: c).tail ++ q := rfl
      rw [hh]
      split at h
      · cases h
      · rename_i h2
        rw [if_neg h2]
        split at h
        · rename_i h3
          rw [if_pos h3, ht]
          exact escOf_append h q
        · rename_i h3
          rw [if_neg h3]
          exact escOf_append h q

theorem ranges_append : ∀ (n : Nat) (c : Bs) (k : Nat), c.length ≤ n → ∀ rs r, ranges c k = some (rs, r) → ∀ q, ranges (c ++ q) k = some (rs, r ++ q)
  | n, [], k, _, rs, r, h, q => by
    rw [ranges_eq] at h
    cases h
  | 0, _ :: _, _, h, _, _, _, _ => by simp at h
  | n + 1, b :: c, k, hn, rs, r, h, q => by
    rw [ranges_eq] at h ⊢
    have hh : ((b :: c) ++ q).head? = (b :: c).head? := rfl
    rw [hh]
    split at h
    · rename_i h1
      rw [if_pos h1]
      injection h with h
      injection h with e1 e2
      subst e1
      subst e2
      rfl
    · rename_i h1
      rw [if_neg h1]
      cases he : getEsc (b :: c) with
      | none => rw [he] at h; cases h
      | some x =>
        obtain ⟨lo, c1⟩ := x
        have l1 := (getEsc_lt he).2
        have n1 := (getEsc_lt he).1
        simp only [List.length_cons] at hn l1
        rw [he] at h
        rw [getEsc_append he q]
        simp only at h ⊢
        cases c1 with
        | nil => exact absurd rfl n1
        | cons d c1 =>
          have hh2 : ((d :: c1) ++ q).head? = (d :: c1).head? := rfl
          have ht2 : ((d :: c1) ++ q).tail = (d :: c1).tail ++ q := rfl
          simp only [List.length_cons] at l1
          rw [hh2, ht2]
          split at h
          · rename_i h2
            rw [if_pos h2]
            cases he2 : getEsc (d :: c1).tail with
            | none => rw [he2] at h; cases h
            | some y =>
              obtain ⟨hi, c2⟩ := y
              have l2 := (getEsc_lt he2).2
              simp only [List.tail_cons] at l2
              rw [he2] at h
              rw [getEsc_append he2 q]
              simp only at h ⊢
              cases hr : ranges c2 (k + 1) with
              | none => rw [hr] at h; cases h
              | some z =>
                obtain ⟨rs', r'⟩ := z
                rw [hr] at h
                injection h with h
                injection h with e1 e2
                subst e1
                subst e2
                rw [ranges_append n c2 (k + 1) (by omega) rs' r' hr q]
                rfl
          · rename_i h2
            rw [if_neg h2]
            cases hr : ranges (d :: c1) (k + 1) with
            | none => rw [hr] at h; cases h
            | some z =>
              obtain ⟨rs', r'⟩ := z
              rw [hr] at h
              injection h with h
              injection h with e1 e2
              subst e1
              subst e2
              rw [ranges_append n (d :: c1) (k + 1) (by simp only [List.length_cons]; omega) rs' r' hr q]
              rfl

theorem classHead_append {t : Bs} (ht : t ≠ []) (q : Bs) : classHead (t ++ q) = ((classHead t).1, (classHead t).2 ++ q) := by
  cases t with
  | nil => exact absurd rfl ht
  | cons b t =>
    unfold classHead
    have hh : ((b :: t) ++ q).head? = (b :: t).head? := rfl
    have h2 : ((b :: t) ++ q).tail = (b :: t).tail ++ q := rfl
    rw [hh, h2]
    split <;> rfl

/-- Behind a well-formed pattern another one is read as it is alone. -/
theorem parse_append : ∀ (n : Nat) (p : Bs), p.length ≤ n → ∀ ts, parse false p = some ts → ∀ q, parse false (p ++ q) = (parse false q).map fun us => ts ++ us
  | _, [], _, ts, h, q => by
    injection h with h
    subst h
    show parse false q = _
    cases parse false q <;> rfl
  | 0, _ :: _, h, _, _, _ => by simp at h
  | n + 1, b :: p, hn, ts, h, q => by
    simp only [List.length_cons] at hn
    have key : ∀ (x : Tm) (u : Bs), u.length ≤ n → (parse false u).map (fun y => x :: y) = some ts → (parse false (u ++ q)).map (fun y => x :: y) = (parse false q).map fun us => ts ++ us := by
      intro x u hu h
      cases hp : parse false u with
      | none => rw [hp] at h; cases h
      | some y =>
        rw [hp] at h
        injection h with h
        subst h
        rw [parse_append n u hu y hp q]
        cases parse false q <;> rfl
    rw [List.cons_append]
    rw [parse_cons] at h ⊢
    split at h
    · rename_i h1
      rw [if_pos h1]
      by_cases hp0 : p = []
      · subst hp0
        have : ranges (classHead []).2 0 = none := rfl
        rw [this] at h
        cases h
      · rw [classHead_append hp0]
        cases hr : ranges (classHead p).2 0 with
        | none => rw [hr] at h; cases h
        | some z =>
          obtain ⟨rs, r⟩ := z
          rw [hr] at h
          have l1 := ranges_lt _ _ _ (Nat.le_refl _) _ hr
          have l2 := classHead_le p
          rw [ranges_append _ _ _ (Nat.le_refl _) rs r hr q]
          exact key _ r (by simp only at l1; omega) h
    · rename_i h1
      rw [if_neg h1]
      split at h
      · rename_i h2
        rw [if_pos h2]
        exact key _ p (by omega) h
      · rename_i h2
        rw [if_neg h2]
        split at h
        · rename_i h3
          rw [if_pos h3]
          cases p with
          | nil => cases h
          | cons c p' =>
            simp only [List.length_cons] at hn
            exact key _ p' (by omega) h
        · rename_i h3
          rw [if_neg h3]
          split at h
          · rename_i h4
            rw [if_pos h4]
            exact key _ p (by omega) h
          · rename_i h4
            rw [if_neg h4]
            exact key _ p (by omega) h
theorem parse_app {p : Bs} {ts : List Tm} (h : parse false p = some ts) (q : Bs) : parse false (p ++ q) = (parse false q).map fun us => ts ++ us := parse_append _ p (Nat.le_refl _) ts h q

/-! ### What is written is read -/

/-- The first byte of a character is the ASCII byte only of itself. -/
theorem enc_head_ne {c k : Nat} (hk : k < 128) (h : c ≠ k) (t : Bs) : (enc c ++ t).head? ≠ some (UInt8.ofNat k) := by
  have := head_encs c [] k hk
  rw [encs_cons, encs_nil, List.append_nil] at this
  intro e
  have e2 : (enc c ++ t).head? = (enc c).head? := by
    cases he : enc c with
    | nil => exact absurd he (enc_ne c)
    | cons => rfl
  rw [e2] at e
  exact h (this.1 e)

theorem escW_head {c : Nat} (t : Bs) : (escW c ++ t).head? ≠ some 45 ∧ (escW c ++ t).head? ≠ some 93 ∧ (escW c ++ t).head? ≠ some 94 := by
  unfold escW
  split
  · refine ⟨?_, ?_, ?_⟩ <;> simp
  · rename_i h
    have hd : ¬ (c = 45 ∨ c = 93 ∨ c = 92 ∨ c = 94) := fun x => h (decide_eq_true x)
    exact ⟨enc_head_ne (k := 45) (by omega) (by omega) t, enc_head_ne (k := 93) (by omega) (by omega) t, enc_head_ne (k := 94) (by omega) (by omega) t⟩

theorem escOf_enc {c : Nat} (hc : sc c) {t : Bs} (ht : t ≠ []) : escOf (enc c ++ t) = some (c, t) := by
  unfold escOf
  rw [if_neg (by intro e; exact absurd (List.append_eq_nil_iff.1 e).1 (enc_ne c)), if_neg (dec_not_bad hc t), dec_enc hc]
  simp only [List.drop_left]
  rw [if_neg ht]

theorem getEsc_escW {c : Nat} (hc : sc c) {t : Bs} (ht : t ≠ []) : getEsc (escW c ++ t) = some (c, t) := by
  obtain ⟨h1, h2, _⟩ := escW_head (c := c) t
  rw [getEsc_of]
  have hne : escW c ++ t ≠ [] := by simp [ht]
  rw [if_neg hne, if_neg (by simp only [h1, h2]; simp)]
  unfold escW
  split
  · rw [if_pos (show (92 :: enc c ++ t).head? = some 92 from rfl)]
    exact escOf_enc hc ht
  · rename_i h
    have hd : ¬ (c = 45 ∨ c = 93 ∨ c = 92 ∨ c = 94) := fun x => h (decide_eq_true x)
    rw [if_neg (show ¬ (enc c ++ t).head? = some 92 from enc_head_ne (c := c) (k := 92) (by omega) (by omega) t)]
    exact escOf_enc hc ht

theorem body_head (rs : List (Nat × Nat)) (r : Bs) : (bodyW rs ++ 93 :: r).head? ≠ some 45 ∧ (bodyW rs ++ 93 :: r).head? ≠ some 94 ∧ (rs ≠ [] → (bodyW rs ++ 93 :: r).head? ≠ some 93) := by
  cases rs with
  | nil => exact ⟨by simp [bodyW], by simp [bodyW], fun h => absurd rfl h⟩
  | cons x rs =>
    have e : bodyW (x :: rs) ++ 93 :: r = escW x.1 ++ ((if x.2 = x.1 then [] else 45 :: escW x.2) ++ (bodyW rs ++ 93 :: r)) := by
      simp [bodyW, rangeW]
    rw [e]
    obtain ⟨h1, h2, h3⟩ := escW_head (c := x.1) ((if x.2 = x.1 then [] else 45 :: escW x.2) ++ (bodyW rs ++ 93 :: r))
    exact ⟨h1, h3, fun _ => h2⟩

theorem ranges_body : ∀ (rs : List (Nat × Nat)) (k : Nat) (r : Bs), (∀ x ∈ rs, sc x.1 ∧ sc x.2) → 0 < rs.length + k → ranges (bodyW rs ++ 93 :: r) k = some (rs, r)
  | [], k, r, _, hk => by
    rw [ranges_eq]
    show (if _ ∧ 0 < k then _ else _) = _
    rw [if_pos ⟨rfl, by simpa using hk⟩]
    rfl
  | x :: rs, k, r, hs, _ => by
    obtain ⟨s1, s2⟩ := hs x (by simp)
    have ih := ranges_body rs (k + 1) r (fun y hy => hs y (by simp [hy])) (by omega)
    obtain ⟨_, _, h93⟩ := body_head (x :: rs) r
    obtain ⟨h45, _, _⟩ := body_head rs r
    rw [ranges_eq, if_neg (fun e => h93 (by simp) e.1)]
    have e : bodyW (x :: rs) ++ 93 :: r = escW x.1 ++ ((if x.2 = x.1 then [] else 45 :: escW x.2) ++ (bodyW rs ++ 93 :: r)) := by
      simp [bodyW, rangeW]
    rw [e, getEsc_escW s1 (by simp)]
    simp only
    by_cases hx : x.2 = x.1
    · rw [if_pos hx, List.nil_append, if_neg h45, ih]
      show some ((x.1, x.1) :: rs, r) = _
      have : (x.1, x.1) = x := by
        obtain ⟨a, b⟩ := x
        simp only at hx
        rw [hx]
      rw [this]
    · rw [if_neg hx, if_pos (show (45 :: escW x.2 ++ (bodyW rs ++ 93 :: r)).head? = some 45 from rfl)]
      show (match getEsc (escW x.2 ++ (bodyW rs ++ 93 :: r)) with | none => none | some (hi, c2) => _) = _
      rw [getEsc_escW s2 (by simp)]
      simp only
      rw [ih]
      rfl

theorem parse_write (t : Tm) (h : goodTm t) (r : Bs) : parse false (writeW t ++ r) = (parse false r).map fun ts => ex t ++ ts := by
  rcases h with ⟨k, e⟩ | ⟨k, e⟩ | ⟨k, e, hne, hs⟩ | ⟨k, e, hc⟩
  · subst e
    exact parse_star r
  · subst e
    exact parse_any false r
  · have ex' : ex t = [t] := by unfold ex; rw [if_neg (by omega)]
    rw [ex']
    have hp : 0 < t.rs.length := List.length_pos_iff.2 hne
    have hr := ranges_body t.rs 0 r hs (by omega)
    obtain ⟨_, h94, _⟩ := body_head t.rs r
    have hw : writeW t ++ r = 91 :: ((if t.neg then [94] else []) ++ (bodyW t.rs ++ 93 :: r)) := by
      unfold writeW
      rw [if_neg (by omega), if_neg (by omega), if_neg (by omega)]
      split <;> simp
    rw [hw, parse_cls]
    have hc : classHead ((if t.neg then [94] else []) ++ (bodyW t.rs ++ 93 :: r)) = (t.neg, bodyW t.rs ++ 93 :: r) := by
      unfold classHead
      cases hn : t.neg with
      | true => rfl
      | false => show (if (bodyW t.rs ++ 93 :: r).head? = some 94 then _ else _) = _; rw [if_neg h94]; rfl
    rw [hc]
    simp only
    rw [hr]
    simp only
    rw [← e]
    rfl
  · have ex' : ex t = lits (enc t.chr) := by unfold ex; rw [if_pos k]
    rw [ex']
    unfold writeW
    rw [if_neg (by omega), if_neg (by omega), if_pos k]
    split
    · exact parse_escaped t.chr r
    · rename_i hsp
      have hd : ¬ (t.chr = 42 ∨ t.chr = 63 ∨ t.chr = 91 ∨ t.chr = 92) := fun x => hsp (decide_eq_true x)
      exact parse_chr t.chr r (by omega) (by omega) (by omega) (by omega)

theorem parse_writeA : ∀ (ts : List Tm), (∀ t ∈ ts, goodTm t) → parse false (writeA ts) = some (exs ts)
  | [], _ => rfl
  | t :: ts, h => by
    show parse false (writeW t ++ writeA ts) = _
    rw [parse_write t (h t (by simp)), parse_writeA ts (fun x hx => h x (by simp [hx]))]
    rfl

/-! ### Terms that admit the same -/

def sameTm (t u : Tm) : Prop := t.kind = u.kind ∧ t.chr = u.chr ∧ (t.kind = 2 → t.neg = u.neg ∧ ∀ c, inR t.rs c = inR u.rs c)
theorem step_same {t u : Tm} (h : sameTm t u) (s : Bs) : step t s = step u s := by
  obtain ⟨h1, h2, h3⟩ := h
  cases s with
  | nil => rfl
  | cons b s =>
    unfold step
    simp only
    rw [← h1, ← h2]
    by_cases k1 : t.kind = 1
    · rw [if_pos k1, if_pos k1]
    · rw [if_neg k1, if_neg k1]
      by_cases k2 : t.kind = 2
      · obtain ⟨h4, h5⟩ := h3 k2
        rw [if_pos k2, if_pos k2, h4, h5]
      · rw [if_neg k2, if_neg k2]

/-- Lists of terms, one like the other. -/
inductive Same : List Tm → List Tm → Prop
  | nil : Same [] []
  | cons {t u : Tm} {ts us : List Tm} : sameTm t u → Same ts us → Same (t :: ts) (u :: us)

theorem Same.refl : ∀ ts, Same ts ts
  | [] => .nil
  | _ :: ts => .cons ⟨rfl, rfl, fun _ => ⟨rfl, fun _ => rfl⟩⟩ (Same.refl ts)
theorem Same.append {a b c d : List Tm} (h : Same a b) (k : Same c d) : Same (a ++ c) (b ++ d) := by
  induction h with
  | nil => exact k
  | cons h _ ih => exact .cons h ih
theorem steps_same {a b : List Tm} (h : Same a b) : ∀ s, steps a s = steps b s := by
  induction h with
  | nil => intro s; rfl
  | cons h _ ih =>
    intro s
    cases s with
    | none => exact ih none
    | some s =>
      show steps _ (step _ s) = steps _ (step _ s)
      rw [step_same h]
      exact ih _
theorem Same.empty {a b : List Tm} (h : Same a b) : a.isEmpty = b.isEmpty := by cases h <;> rfl
theorem first_same (star last : Bool) {a b : List Tm} (h : Same a b) : ∀ s, first star a last s = first star b last s
  | [] => by
    unfold first
    rw [steps_same h]
  | c :: s => by
    unfold first
    rw [steps_same h, first_same star last h s]
inductive SameC : List (Bool × List Tm) → List (Bool × List Tm) → Prop
  | nil : SameC [] []
  | cons {x : Bool} {a b : List Tm} {cs ds : List (Bool × List Tm)} : Same a b → SameC cs ds → SameC ((x, a) :: cs) ((x, b) :: ds)
theorem SameC.empty {a b : List (Bool × List Tm)} (h : SameC a b) : a.isEmpty = b.isEmpty := by cases h <;> rfl
theorem gmc_same {a b : List (Bool × List Tm)} (h : SameC a b) : ∀ s, gmc a s = gmc b s := by
  induction h with
  | nil => intro s; rfl
  | cons h k ih =>
    intro s
    unfold gmc
    rw [first_same _ _ h, k.empty]
    split
    · exact ih _
    · rfl
theorem tsplit_same {a b : List Tm} (h : Same a b) : SameC (tsplit a) (tsplit b) := by
  induction h with
  | nil => exact .nil
  | cons h _ ih =>
    rename_i _ _ ts us _
    unfold tsplit
    rw [← h.1]
    split
    · generalize tsplit ts = x at ih ⊢
      generalize tsplit us = y at ih ⊢
      cases ih with
      | nil => exact .cons .nil .nil
      | cons h2 k2 =>
        rename_i z _ _ _ _
        cases z <;> exact .cons h2 k2
    · generalize tsplit ts = x at ih ⊢
      generalize tsplit us = y at ih ⊢
      cases ih with
      | nil => exact .cons (.cons h .nil) .nil
      | cons h2 k2 =>
        rename_i z _ _ _ _
        cases z with
        | true => exact .cons (.cons h .nil) (.cons h2 k2)
        | false => exact .cons (.cons h h2) k2
theorem gm_same {a b : List Tm} (h : Same a b) (s : Bs) : gm a s = gm b s := gmc_same (tsplit_same h) s

end Go.Proofs.YtcoaoheakeodoaaDoor

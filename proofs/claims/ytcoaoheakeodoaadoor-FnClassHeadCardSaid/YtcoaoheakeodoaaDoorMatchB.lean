/-
  Plain laws: the chunks of a pattern, as the code cuts it, are the terms between its stars: no program. Conditions: none beyond those of each theorem.
-/
import Derived.Test.YtcoaoheakeodoaaDoorMatchA
namespace Go.Proofs.YtcoaoheakeodoaaDoor
open Go Go.Lib

/-! ### Decoding what is cut short -/

theorem decodeN_take (m n b0 b1 b2 b3 : Nat) (h1 : 1 ≤ m) (hn : m ≤ n) :
    decodeN m b0 (if 1 < m then b1 else 0) (if 2 < m then b2 else 0) (if 3 < m then b3 else 0) = if (decodeN n b0 b1 b2 b3).2 ≤ m then decodeN n b0 b1 b2 b3 else (65533, 1) := by
  by_cases m4 : 4 ≤ m
  · have e1 : 1 < m := by omega
    have e2 : 2 < m := by omega
    have e3 : 3 < m := by omega
    have f1 : 1 < n := by omega
    have f2 : 2 < n := by omega
    have f3 : 3 < n := by omega
    rw [if_pos e1, if_pos e2, if_pos e3]
    have : decodeN m b0 b1 b2 b3 = decodeN n b0 b1 b2 b3 := by
      unfold decodeN
      simp only [e1, e2, e3, f1, f2, f3]
    rw [this, if_pos]
    have := decodeN_le 4 b0 b1 b2 b3 (by omega)
    have h4 : decodeN 4 b0 b1 b2 b3 = decodeN n b0 b1 b2 b3 := by
      unfold decodeN
      simp [f1, f2, f3]
    rw [h4] at this
    omega
  · obtain rfl | rfl | rfl : m = 1 ∨ m = 2 ∨ m = 3 := by omega
    · unfold decodeN
      simp
      repeat' split
      all_goals first | rfl | omega | (simp at *; done) | (simp at *; omega)
    · have f1 : 1 < n := by omega
      unfold decodeN
      simp [f1]
      repeat' split
      all_goals first | rfl | omega | (simp at *; done) | (simp at *; omega)
    · have f1 : 1 < n := by omega
      have f2 : 2 < n := by omega
      unfold decodeN
      simp [f1, f2]
      repeat' split
      all_goals first | rfl | omega | (simp at *; done) | (simp at *; omega)

theorem getD_take0 (l : Bs) (m k : Nat) : ((l.take m).getD k 0).toNat = if k < m then (l.getD k 0).toNat else 0 := by
  split
  · rename_i h
    rw [getD_takeU l m k h]
  · rename_i h
    simp [List.getD, List.getElem?_take, h]

theorem dec_take (l : Bs) (m : Nat) (h1 : 1 ≤ m) (hm : m ≤ l.length) : dec (l.take m) = if (dec l).2 ≤ m then dec l else (65533, 1) := by
  have hl : l ≠ [] := by intro e; subst e; simp at hm; omega
  have ht : l.take m ≠ [] := by
    intro e
    have := congrArg List.length e
    rw [List.length_take, List.length_nil] at this
    omega
  unfold dec
  rw [if_neg hl, if_neg ht, decodeL_N, decodeL_N, getD_take0, getD_take0, getD_take0, getD_take0, if_pos (by omega), List.length_take, Nat.min_eq_left hm]
  exact decodeN_take m l.length _ _ _ _ h1 hm

/-- A character of one byte, or of several bytes none of which is an ASCII one. -/
theorem decodeN_bytes (n b0 b1 b2 b3 : Nat) (h : ¬ ((decodeN n b0 b1 b2 b3).1 = 65533 ∧ (decodeN n b0 b1 b2 b3).2 = 1)) :
    ((decodeN n b0 b1 b2 b3).2 = 1 ∧ b0 < 128) ∨ (128 ≤ b0 ∧ (1 < (decodeN n b0 b1 b2 b3).2 → 128 ≤ b1) ∧ (2 < (decodeN n b0 b1 b2 b3).2 → 128 ≤ b2) ∧ (3 < (decodeN n b0 b1 b2 b3).2 → 128 ≤ b3) ∧ 2 ≤ (decodeN n b0 b1 b2 b3).2 ∧ (decodeN n b0 b1 b2 b3).2 ≤ 4) := by
  unfold decodeN at h ⊢
  repeat' split
  all_goals first | (simp_all; done) | (simp_all; omega)

theorem dec_bytes {d : Bs} (hd : d ≠ []) (h : ¬ badDec d) : ((dec d).2 = 1 ∧ (d.getD 0 0).toNat < 128) ∨ (2 ≤ (dec d).2 ∧ ∀ k, k < (dec d).2 → 128 ≤ (d.getD k 0).toNat) := by
  unfold badDec dec at h
  unfold dec
  rw [if_neg hd] at h ⊢
  rw [decodeL_N] at h ⊢
  rcases decodeN_bytes _ _ _ _ _ h with h1 | ⟨h0, h1, h2, h3, h4, h5⟩
  · exact .inl h1
  · refine .inr ⟨h4, fun k hk => ?_⟩
    match k, hk with
    | 0, _ => exact h0
    | 1, hk => exact h1 hk
    | 2, hk => exact h2 hk
    | 3, hk => exact h3 hk
    | k + 4, hk => omega

theorem scan_skip : ∀ (n : Nat) (d : Bs) (i : Bool), n ≤ d.length → (∀ k, k < n → 128 ≤ (d.getD k 0).toNat) → scanEnd d i = scanEnd (d.drop n) i + n
  | 0, d, i, _, _ => by simp
  | n + 1, [], i, h, _ => by simp at h
  | n + 1, b :: t, i, h, hb => by
    have h0 := hb 0 (by omega)
    simp at h0
    have n1 : b ≠ 92 := fun e => by rw [e] at h0; revert h0; decide
    have n2 : b ≠ 91 := fun e => by rw [e] at h0; revert h0; decide
    have n3 : b ≠ 93 := fun e => by rw [e] at h0; revert h0; decide
    have n4 : b ≠ 42 := fun e => by rw [e] at h0; revert h0; decide
    have ih := scan_skip n t i (by simpa using h) (fun k hk => by have := hb (k + 1) (by omega); simpa using this)
    rw [List.drop_succ_cons]
    conv => lhs; unfold scanEnd
    rw [if_neg n1, if_neg n2, if_neg n3, if_neg n4, ih]
    omega

theorem scan_pos {c : Bs} (h : c ≠ []) : 1 ≤ scanEnd c true := by
  cases c with
  | nil => exact absurd rfl h
  | cons b t =>
    unfold scanEnd
    split
    · cases t <;> simp
    · split
      · omega
      · split
        · omega
        · split
          · simp
          · omega

theorem scan_le : ∀ (n : Nat) (c : Bs) (i : Bool), c.length ≤ n → scanEnd c i ≤ c.length
  | _, [], _, _ => by simp [scanEnd]
  | 0, _ :: _, _, h => by simp at h
  | n + 1, b :: t, i, h => by
    simp only [List.length_cons] at h ⊢
    have h1 := scan_le n t true (by omega)
    have h2 := scan_le n t false (by omega)
    have h3 := scan_le n t i (by omega)
    unfold scanEnd
    split
    · cases t with
      | nil => simp
      | cons c t' =>
        simp only [List.length_cons] at h ⊢
        have := scan_le n t' i (by omega)
        omega
    · split
      · omega
      · split
        · omega
        · split
          · split <;> omega
          · omega

theorem head_take (c : Bs) (m : Nat) (h : 1 ≤ m) : (c.take m).head? = c.head? := by
  cases c with
  | nil => simp
  | cons b t =>
    obtain ⟨k, rfl⟩ : ∃ k, m = k + 1 := ⟨m - 1, by omega⟩
    rfl
theorem tail_take (c : Bs) (m : Nat) : (c.take m).tail = c.tail.take (m - 1) := by
  cases c with
  | nil => simp
  | cons b t =>
    cases m with
    | zero => simp
    | succ m => simp

/-- What getEsc makes of a text from its first byte on ('d': the text behind a backslash). -/
def escOf (d : Bs) : Option (Nat × Bs) := if d = [] then none else if badDec d then none else if d.drop (dec d).2 = [] then none else some ((dec d).1, d.drop (dec d).2)

theorem getEsc_of (c : Bs) : getEsc c = if c = [] then none else if c.head? = some 45 ∨ c.head? = some 93 then none else if c.head? = some 92 then escOf c.tail else escOf c := by
  unfold getEsc escOf
  split
  · rfl
  · split
    · rfl
    · rename_i hc _
      by_cases h : c.head? = some 92
      · simp only [h, if_true]
      · simp only [h, if_false, if_neg hc]

theorem escOf_take (d : Bs) (m : Nat) : (∀ r d', escOf d = some (r, d') → d.length - d'.length < m → escOf (d.take m) = some (r, d'.take (m - (d.length - d'.length)))) ∧ (escOf d = none → escOf (d.take m) = none) := by
  by_cases hd : d = []
  · subst hd
    simp [escOf]
  · by_cases hm : m = 0
    · subst hm
      simp [escOf]
    · by_cases hml : d.length ≤ m
      · rw [List.take_of_length_le hml]
        refine ⟨fun r d' h hlt => ?_, fun h => h⟩
        have hd' : d'.length ≤ d.length := by
          unfold escOf at h
          rw [if_neg hd] at h
          split at h
          · cases h
          · split at h
            · cases h
            · injection h with h
              injection h with h1 h2
              rw [← h2, List.length_drop]
              omega
        rw [h, List.take_of_length_le (by omega)]
      · have ht : d.take m ≠ [] := by
          intro e
          have := congrArg List.length e
          rw [List.length_take, List.length_nil] at this
          have := List.length_pos_iff.2 hd
          omega
        have hdt := dec_take d m (by omega) (by omega)
        have hle := dec_le d
        have hge := dec_ge hd
        constructor
        · intro r d' h hlt
          unfold escOf at h
          rw [if_neg hd] at h
          split at h
          · cases h
          · rename_i hb
            split at h
            · cases h
            · rename_i hne
              injection h with h
              injection h with h1 h2
              subst h2
              rw [List.length_drop] at hlt ⊢
              have hw : d.length - (d.length - (dec d).2) = (dec d).2 := by omega
              rw [hw] at hlt ⊢
              rw [if_pos (by omega)] at hdt
              unfold escOf
              have hb' : ¬ badDec (d.take m) := by unfold badDec at hb ⊢; rw [hdt]; exact hb
              rw [if_neg ht, if_neg hb', hdt, h1]
              have e : (d.take m).drop (dec d).2 = (d.drop (dec d).2).take (m - (dec d).2) := by rw [List.drop_take]
              rw [e, if_neg]
              intro e0
              have := congrArg List.length e0
              rw [List.length_take, List.length_drop] at this
              simp at this
              omega
        · intro h
          unfold escOf at h
          rw [if_neg hd] at h
          unfold escOf
          rw [if_neg ht]
          split at h
          · rename_i hb
            have hb2 : (dec d).2 = 1 := hb.2
            rw [if_pos (by omega)] at hdt
            rw [if_pos (by unfold badDec at hb ⊢; rw [hdt]; exact hb)]
          · split at h
            · rename_i hb he
              have hn : (dec d).2 = d.length := by
                have := congrArg List.length he
                rw [List.length_drop] at this
                simp at this
                omega
              rw [if_neg (by omega)] at hdt
              rw [if_pos (by unfold badDec; rw [hdt]; exact ⟨rfl, rfl⟩)]
            · cases h

theorem getEsc_take (c : Bs) (m : Nat) : (∀ r c', getEsc c = some (r, c') → c.length - c'.length < m → getEsc (c.take m) = some (r, c'.take (m - (c.length - c'.length)))) ∧ (getEsc c = none → getEsc (c.take m) = none) := by
  by_cases hm : m = 0
  · subst hm
    simp [getEsc]
  · by_cases hc : c = []
    · subst hc
      simp [getEsc]
    · have ht : c.take m ≠ [] := by
        intro e
        have := congrArg List.length e
        rw [List.length_take, List.length_nil] at this
        have := List.length_pos_iff.2 hc
        omega
      rw [getEsc_of c, getEsc_of (c.take m), if_neg hc, if_neg ht, head_take c m (by omega)]
      split
      · exact ⟨fun r c' h => (by cases h), fun _ => rfl⟩
      · split
        · rename_i hb h92
          rw [tail_take]
          have hl : c.length = c.tail.length + 1 := by
            cases c with
            | nil => exact absurd rfl hc
            | cons b t => simp
          have := escOf_take c.tail (m - 1)
          refine ⟨fun r c' h hlt => ?_, this.2⟩
          have hle : c'.length ≤ c.tail.length := by
            unfold escOf at h
            split at h
            · cases h
            · split at h
              · cases h
              · split at h
                · cases h
                · injection h with h
                  injection h with h1 h2
                  rw [← h2, List.length_drop]
                  omega
          rw [this.1 r c' h (by omega)]
          congr 3
          omega
        · exact escOf_take c m

theorem getEsc_scan {c : Bs} {r : Nat} {c' : Bs} (h : getEsc c = some (r, c')) : scanEnd c true = scanEnd c' true + (c.length - c'.length) := by
  rw [getEsc_of] at h
  split at h
  · cases h
  · rename_i hc
    split at h
    · cases h
    · rename_i hh
      have key : ∀ d : Bs, escOf d = some (r, c') → d ≠ [] ∧ ¬ badDec d ∧ c' = d.drop (dec d).2 ∧ c' ≠ [] := by
        intro d h
        unfold escOf at h
        split at h
        · cases h
        · split at h
          · cases h
          · split at h
            · cases h
            · injection h with h
              injection h with h1 h2
              exact ⟨‹_›, ‹_›, h2.symm, h2 ▸ ‹_›⟩
      split at h
      · rename_i h92
        obtain ⟨k1, k2, k3, k4⟩ := key _ h
        cases c with
        | nil => exact absurd rfl hc
        | cons b t =>
          have hb : b = 92 := by simpa using h92
          subst hb
          simp only [List.tail_cons] at k1 k2 k3
          cases t with
          | nil => exact absurd rfl k1
          | cons x t' =>
            have hle := dec_le (x :: t')
            have hge := dec_ge k1
            have e0 : scanEnd (92 :: x :: t') true = scanEnd t' true + 2 := by
              conv => lhs; unfold scanEnd
              rw [if_pos rfl]
            rw [e0, k3]
            simp only [List.length_drop, List.length_cons] at hle ⊢
            rcases dec_bytes k1 k2 with ⟨w1, _⟩ | ⟨w2, hb⟩
            · rw [w1, List.drop_succ_cons, List.drop_zero]
              omega
            · obtain ⟨n, hn⟩ : ∃ n, (dec (x :: t')).2 = n + 1 := ⟨(dec (x :: t')).2 - 1, by omega⟩
              rw [hn, List.drop_succ_cons]
              rw [scan_skip n t' true (by omega) (fun k hk => by have := hb (k + 1) (by omega); simpa using this)]
              omega
      · rename_i h92
        obtain ⟨k1, k2, k3, k4⟩ := key _ h
        have hle := dec_le c
        have hge := dec_ge k1
        rw [k3]
        rw [List.length_drop]
        rcases dec_bytes k1 k2 with ⟨w1, _⟩ | ⟨w2, hb⟩
        · rw [w1]
          cases c with
          | nil => exact absurd rfl hc
          | cons b t =>
            simp only [List.head?_cons, Option.some.injEq, not_or] at hh h92
            simp only [List.drop_succ_cons, List.drop_zero, List.length_cons]
            conv => lhs; unfold scanEnd
            rw [if_neg h92]
            split
            · omega
            · rw [if_neg hh.2]
              split
              · simp
              · omega
        · rw [scan_skip (dec c).2 c true hle hb]
          omega

theorem ranges_scan : ∀ (n : Nat) (c : Bs) (k : Nat), c.length ≤ n →
    (∀ rs r, ranges c k = some (rs, r) → scanEnd c true = scanEnd r false + (c.length - r.length) ∧ ranges (c.take (scanEnd c true)) k = some (rs, r.take (scanEnd r false))) ∧
    (ranges c k = none → ranges (c.take (scanEnd c true)) k = none)
  | n, c, k, hn => by
    by_cases hc : c = []
    · subst hc
      refine ⟨fun rs r h => ?_, fun h => h⟩
      rw [ranges_eq] at h
      simp [getEsc] at h
    · have hp := scan_pos hc
      have hl := scan_le _ c true (Nat.le_refl _)
      rw [ranges_eq c k, ranges_eq (c.take (scanEnd c true)) k, head_take c _ hp]
      split
      · rename_i hh
        refine ⟨fun rs r h => ?_, fun h => by cases h⟩
        injection h with h
        injection h with h1 h2
        subst h1
        subst h2
        cases c with
        | nil => exact absurd rfl hc
        | cons b t =>
          have hb : b = 93 := by simpa using hh.1
          subst hb
          have e : scanEnd (93 :: t) true = scanEnd t false + 1 := by
            conv => lhs; unfold scanEnd
            simp
          refine ⟨by rw [e]; simp, ?_⟩
          rw [tail_take, e]
          rfl
      · cases h1 : getEsc c with
        | none =>
          rw [(getEsc_take c _).2 h1]
          exact ⟨fun rs r h => (by cases h), fun _ => rfl⟩
        | some y =>
          obtain ⟨lo, c1⟩ := y
          have l1 := getEsc_lt h1
          have s1 := getEsc_scan h1
          have p1 := scan_pos l1.1
          have t1 := (getEsc_take c (scanEnd c true)).1 lo c1 h1 (by omega)
          rw [show scanEnd c true - (c.length - c1.length) = scanEnd c1 true by omega] at t1
          rw [t1]
          simp only
          rw [head_take c1 _ p1]
          split
          · rename_i h45
            have e1 : c1 = 45 :: c1.tail := by
              cases c1 with
              | nil => exact absurd rfl l1.1
              | cons b t => have : b = 45 := by simpa using h45
                            rw [this]; rfl
            have e2 : scanEnd c1 true = scanEnd c1.tail true + 1 := by
              conv => lhs; rw [e1]; unfold scanEnd
              simp
            have el : c1.length = c1.tail.length + 1 := by
              conv => lhs; rw [e1]
              rfl
            rw [tail_take, e2, Nat.add_sub_cancel]
            cases h2 : getEsc c1.tail with
            | none =>
              rw [(getEsc_take c1.tail _).2 h2]
              exact ⟨fun rs r h => (by cases h), fun _ => rfl⟩
            | some z =>
              obtain ⟨hi, c2⟩ := z
              have l2 := getEsc_lt h2
              have s2 := getEsc_scan h2
              have p2 := scan_pos l2.1
              have t2 := (getEsc_take c1.tail (scanEnd c1.tail true)).1 hi c2 h2 (by omega)
              rw [show scanEnd c1.tail true - (c1.tail.length - c2.length) = scanEnd c2 true by omega] at t2
              rw [t2]
              simp only
              have ih := match n, hn with
                | 0, hn => absurd (List.length_pos_iff.2 hc) (by omega)
                | n + 1, hn => ranges_scan n c2 (k + 1) (by omega)
              constructor
              · intro rs r h
                cases h3 : ranges c2 (k + 1) with
                | none => rw [h3] at h; cases h
                | some u =>
                  obtain ⟨us, ur⟩ := u
                  rw [h3] at h
                  injection h with h
                  injection h with h4 h5
                  simp only at h4 h5
                  subst h5
                  have := ih.1 us ur h3
                  have lr := ranges_lt _ _ _ (Nat.le_refl _) _ h3
                  simp only at lr
                  refine ⟨by omega, ?_⟩
                  rw [this.2, ← h4]
                  rfl
              · intro h
                cases h3 : ranges c2 (k + 1) with
                | none => rw [ih.2 h3]; rfl
                | some u => rw [h3] at h; cases h
          · have ih := match n, hn with
              | 0, hn => absurd (List.length_pos_iff.2 hc) (by omega)
              | n + 1, hn => ranges_scan n c1 (k + 1) (by omega)
            constructor
            · intro rs r h
              cases h3 : ranges c1 (k + 1) with
              | none => rw [h3] at h; cases h
              | some u =>
                obtain ⟨us, ur⟩ := u
                rw [h3] at h
                injection h with h
                injection h with h4 h5
                simp only at h4 h5
                subst h5
                have := ih.1 us ur h3
                have lr := ranges_lt _ _ _ (Nat.le_refl _) _ h3
                simp only at lr
                refine ⟨by omega, ?_⟩
                rw [this.2, ← h4]
                rfl
            · intro h
              cases h3 : ranges c1 (k + 1) with
              | none => rw [ih.2 h3]; rfl
              | some u => rw [h3] at h; cases h

theorem getEsc_suffix {c : Bs} {r : Nat} {c' : Bs} (h : getEsc c = some (r, c')) : ∃ a, c = a ++ c' := by
  rw [getEsc_of] at h
  have key : ∀ d : Bs, escOf d = some (r, c') → ∃ a, d = a ++ c' := by
    intro d h
    unfold escOf at h
    split at h
    · cases h
    · split at h
      · cases h
      · split at h
        · cases h
        · injection h with h
          injection h with h1 h2
          exact ⟨d.take (dec d).2, by rw [← h2, List.take_append_drop]⟩
  split at h
  · cases h
  · split at h
    · cases h
    · split at h
      · obtain ⟨a, ha⟩ := key _ h
        cases c with
        | nil => exact ⟨a, ha⟩
        | cons b t => exact ⟨b :: a, by rw [List.cons_append, ← ha]; rfl⟩
      · exact key _ h

theorem ranges_suffix : ∀ (n : Nat) (c : Bs) (k : Nat), c.length ≤ n → ∀ rs r, ranges c k = some (rs, r) → ∃ a, c = a ++ r
  | n, c, k, hn, rs, r, h => by
    rw [ranges_eq] at h
    split at h
    · injection h with h
      injection h with h1 h2
      cases c with
      | nil => exact ⟨[], by rw [← h2]; rfl⟩
      | cons b t => exact ⟨[b], by rw [← h2]; rfl⟩
    · cases h1 : getEsc c with
      | none => rw [h1] at h; cases h
      | some y =>
        obtain ⟨lo, c1⟩ := y
        have l1 := (getEsc_lt h1).2
        obtain ⟨a1, e1⟩ := getEsc_suffix h1
        rw [h1] at h
        simp only at h
        split at h
        · cases h2 : getEsc c1.tail with
          | none => rw [h2] at h; cases h
          | some z =>
            obtain ⟨hi, c2⟩ := z
            have l2 := (getEsc_lt h2).2
            have : c1.tail.length ≤ c1.length := by simp
            obtain ⟨a2, e2⟩ := getEsc_suffix h2
            have e3 : ∃ a3, c1 = a3 ++ c1.tail := by
              cases c1 with
              | nil => exact ⟨[], rfl⟩
              | cons b t => exact ⟨[b], rfl⟩
            obtain ⟨a3, e3⟩ := e3
            rw [h2] at h
            simp only at h
            cases h3 : ranges c2 (k + 1) with
            | none => rw [h3] at h; cases h
            | some u =>
              obtain ⟨us, ur⟩ := u
              rw [h3] at h
              injection h with h
              injection h with h4 h5
              simp only at h5
              subst h5
              obtain ⟨a4, e4⟩ := match n, hn with
                | 0, hn => absurd hn (by omega)
                | n + 1, hn => ranges_suffix n c2 (k + 1) (by omega) us ur h3
              exact ⟨a1 ++ (a3 ++ (a2 ++ a4)), by rw [List.append_assoc, List.append_assoc, List.append_assoc, ← e4, ← e2, ← e3, ← e1]⟩
        · cases h3 : ranges c1 (k + 1) with
          | none => rw [h3] at h; cases h
          | some u =>
            obtain ⟨us, ur⟩ := u
            rw [h3] at h
            injection h with h
            injection h with h4 h5
            simp only at h5
            subst h5
            obtain ⟨a4, e4⟩ := match n, hn with
              | 0, hn => absurd hn (by omega)
              | n + 1, hn => ranges_suffix n c1 (k + 1) (by omega) us ur h3
            exact ⟨a1 ++ a4, by rw [List.append_assoc, ← e4, ← e1]⟩

/-- The pattern's terms: those of its first chunk, then the others. -/
theorem scan_parse : ∀ (n : Nat) (p : Bs), p.length ≤ n →
    parse false p = (parse true (p.take (scanEnd p false))).bind fun ts => (parse false (p.drop (scanEnd p false))).map fun us => ts ++ us
  | _, [], _ => rfl
  | 0, _ :: _, h => by simp at h
  | n + 1, b :: t, h => by
    have hn : t.length ≤ n := by simpa using h
    have lift : ∀ (m : Nat) (x : Tm) (u : Bs), u.length ≤ n →
        (parse false u).map (fun y => x :: y) = ((parse true (u.take (scanEnd u false))).map fun y => x :: y).bind fun ts => (parse false (u.drop (scanEnd u false))).map fun us => ts ++ us := by
      intro m x u hu
      rw [scan_parse n u hu]
      cases parse true (u.take (scanEnd u false)) with
      | none => rfl
      | some ts =>
        simp only [Option.bind_some, Option.map_some]
        cases parse false (u.drop (scanEnd u false)) <;> rfl
    by_cases h91 : b = 91
    · subst h91
      have es : scanEnd (91 :: t) false = scanEnd t true + 1 := by
        conv => lhs; unfold scanEnd
        simp
      rw [es, List.take_succ_cons, List.drop_succ_cons, parse_cls, parse_cls]
      have ch : classHead (t.take (scanEnd t true)) = ((classHead t).1, (classHead t).2.take (scanEnd (classHead t).2 true)) ∧ scanEnd t true = scanEnd (classHead t).2 true + (t.length - (classHead t).2.length) := by
        by_cases ht : t = []
        · subst ht; exact ⟨rfl, rfl⟩
        · unfold classHead
          rw [head_take t _ (scan_pos ht)]
          split
          · rename_i h94
            cases t with
            | nil => exact absurd rfl ht
            | cons x t' =>
              have : x = 94 := by simpa using h94
              subst this
              have e94 : scanEnd (94 :: t') true = scanEnd t' true + 1 := by
                conv => lhs; unfold scanEnd
                simp
              rw [e94]
              refine ⟨by simp, by simp⟩
          · exact ⟨rfl, by simp⟩
      rw [ch.1]
      simp only
      have hcl := classHead_le t
      have R := ranges_scan _ (classHead t).2 0 (Nat.le_refl _)
      cases hr : ranges (classHead t).2 0 with
      | none =>
        rw [R.2 hr]
        rfl
      | some x =>
        obtain ⟨rs, r⟩ := x
        have R1 := R.1 rs r hr
        have lr := ranges_lt _ _ _ (Nat.le_refl _) _ hr
        simp only at lr
        rw [R1.2]
        simp only
        rw [lift 0 _ r (by omega)]
        congr 2
        funext ts
        congr 1
        have : t.drop (scanEnd t true) = r.drop (scanEnd r false) := by
          have hsuf := ranges_suffix _ (classHead t).2 0 (Nat.le_refl _) rs r hr
          have hsuf2 : ∃ a, t = a ++ (classHead t).2 := by
            unfold classHead
            split
            · cases t with
              | nil => exact ⟨[], rfl⟩
              | cons x t' => exact ⟨[x], rfl⟩
            · exact ⟨[], rfl⟩
          obtain ⟨a1, ha1⟩ := hsuf
          obtain ⟨a2, ha2⟩ := hsuf2
          rw [ha1] at ha2
          have hlen : scanEnd t true = (a2 ++ a1).length + scanEnd r false := by
            have q1 := congrArg List.length ha1
            have q2 := congrArg List.length ha2
            simp only [List.length_append] at q1 q2 ⊢
            omega
          rw [hlen]
          conv => lhs; rw [ha2]
          rw [← List.append_assoc, List.drop_append, List.drop_eq_nil_of_le (by omega), List.nil_append, Nat.add_sub_cancel_left]
        rw [this]
    · by_cases h63 : b = 63
      · subst h63
        have es : scanEnd (63 :: t) false = scanEnd t false + 1 := by
          conv => lhs; unfold scanEnd
          simp
        rw [es, List.take_succ_cons, List.drop_succ_cons, parse_any, parse_any]
        exact lift 0 _ t hn
      · by_cases h92 : b = 92
        · subst h92
          cases t with
          | nil => rfl
          | cons c t' =>
            have es : scanEnd (92 :: c :: t') false = scanEnd t' false + 2 := by
              conv => lhs; unfold scanEnd
              simp
            rw [es, List.take_succ_cons, List.take_succ_cons, List.drop_succ_cons, List.drop_succ_cons, parse_esc, parse_esc]
            exact lift 0 _ t' (by simp at hn; omega)
        · by_cases h42 : b = 42
          · subst h42
            have es : scanEnd (42 :: t) false = 0 := by
              conv => lhs; unfold scanEnd
              simp
            rw [es]
            simp only [List.take_zero, List.drop_zero, parse_nil, Option.bind_some]
            cases parse false (42 :: t) <;> rfl
          · have es : scanEnd (b :: t) false = scanEnd t false + 1 := by
              conv => lhs; unfold scanEnd
              rw [if_neg h92, if_neg h91, if_neg h42]
              simp
            rw [es, List.take_succ_cons, List.drop_succ_cons, parse_lit _ _ _ h91 h63 h92 (.inl h42), parse_lit _ _ _ h91 h63 h92 (.inl h42)]
            exact lift 0 _ t hn

end Go.Proofs.YtcoaoheakeodoaaDoor

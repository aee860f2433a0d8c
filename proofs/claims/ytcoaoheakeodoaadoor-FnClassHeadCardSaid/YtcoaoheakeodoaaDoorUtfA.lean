/-
  Characters and their bytes: a valid text is the bytes of its characters, one behind the other. Conditions: none beyond those of each theorem.
-/
import Derived.Test.YtcoaoheakeodoaaDoorMatchR
import Derived.Lib.MapLaws
namespace Go.Proofs.YtcoaoheakeodoaaDoor
open Go Go.Lib

/-- Is a number a character? -/
def sc (c : Nat) : Prop := c < 55296 ∨ (57344 ≤ c ∧ c ≤ 1114111)
instance (c : Nat) : Decidable (sc c) := inferInstanceAs (Decidable (_ ∨ _))

theorem valid_sc (c : Nat) : Utf8.valid (c : Int) = decide (sc c) := by
  unfold Utf8.valid
  rw [Bool.eq_iff_iff]
  simp only [Bool.or_eq_true, Bool.and_eq_true, decide_eq_true_eq]
  unfold sc
  omega

def encN (c : Nat) : Bs :=
  if c < 128 then [UInt8.ofNat c]
  else if c < 2048 then [UInt8.ofNat (192 + c / 64), UInt8.ofNat (128 + c % 64)]
  else if c < 65536 then [UInt8.ofNat (224 + c / 4096), UInt8.ofNat (128 + c / 64 % 64), UInt8.ofNat (128 + c % 64)]
  else [UInt8.ofNat (240 + c / 262144), UInt8.ofNat (128 + c / 4096 % 64), UInt8.ofNat (128 + c / 64 % 64), UInt8.ofNat (128 + c % 64)]
theorem data_ite (p : Prop) [Decidable p] (x y : ByteArray) : (if p then x else y).data.toList = if p then x.data.toList else y.data.toList := by split <;> rfl
theorem encode_N (r : Int) : (Utf8.encode r).data.toList = encN (if Utf8.valid r then r.toNat else 65533) := by
  unfold Utf8.encode encN Utf8.runeError
  simp only [data_ite]
/-- The bytes of string(c). -/
def enc (c : Nat) : Bs := encN (if sc c then c else 65533)
theorem encode_enc (c : Nat) : (Utf8.encode (c : Int)).data.toList = enc c := by
  have h := encode_N (c : Int)
  rw [valid_sc, Int.toNat_natCast] at h
  unfold enc
  by_cases hs : sc c
  · rw [if_pos hs]
    rw [decide_eq_true hs, if_pos rfl] at h
    exact h
  · rw [if_neg hs]
    rw [decide_eq_false hs, if_neg (by decide)] at h
    exact h
theorem enc_eq {c : Nat} (h : sc c) : enc c =
    if c < 128 then [UInt8.ofNat c]
    else if c < 2048 then [UInt8.ofNat (192 + c / 64), UInt8.ofNat (128 + c % 64)]
    else if c < 65536 then [UInt8.ofNat (224 + c / 4096), UInt8.ofNat (128 + c / 64 % 64), UInt8.ofNat (128 + c % 64)]
    else [UInt8.ofNat (240 + c / 262144), UInt8.ofNat (128 + c / 4096 % 64), UInt8.ofNat (128 + c / 64 % 64), UInt8.ofNat (128 + c % 64)] := by
  unfold enc
  rw [if_pos h]
  rfl

theorem enc_bad {c : Nat} (h : ¬ sc c) : enc c = [239, 191, 189] := by
  unfold enc
  rw [if_neg h]
  decide

theorem enc_len (c : Nat) : 1 ≤ (enc c).length ∧ (enc c).length ≤ 4 := by
  by_cases h : sc c
  · rw [enc_eq h]
    repeat' split
    all_goals simp
  · rw [enc_bad h]
    simp
theorem enc_ne (c : Nat) : enc c ≠ [] := by
  intro e
  have := enc_len c
  rw [e] at this
  simp at this

theorem enc_ascii {c : Nat} (h : c < 128) : enc c = [UInt8.ofNat c] := by
  rw [enc_eq (.inl (by omega)), if_pos h]
theorem enc_byte (b : UInt8) (h : b.toNat < 128) : enc b.toNat = [b] := by
  rw [enc_ascii h]
  simp

theorem toNat_ofNat8 (n : Nat) (h : n < 256) : (UInt8.ofNat n).toNat = n := by
  simp
  omega

/-- Every byte of a character beyond ASCII is one; the first one begins a character, the others do not. -/
theorem enc_high {c : Nat} (h : 128 ≤ c) : ∃ b t, enc c = b :: t ∧ 192 ≤ b.toNat ∧ t ≠ [] ∧ ∀ x ∈ t, 128 ≤ x.toNat ∧ x.toNat < 192 := by
  by_cases hs : sc c
  · rw [enc_eq hs, if_neg (by omega)]
    have hs' := hs
    unfold sc at hs'
    split
    · refine ⟨_, _, rfl, ?_, by simp, ?_⟩
      · rw [toNat_ofNat8 _ (by omega)]; omega
      · intro x hx
        simp only [List.mem_cons, List.not_mem_nil, or_false] at hx
        subst hx
        rw [toNat_ofNat8 _ (by omega)]; omega
    · split
      · refine ⟨_, _, rfl, ?_, by simp, ?_⟩
        · rw [toNat_ofNat8 _ (by omega)]; omega
        · intro x hx
          simp only [List.mem_cons, List.not_mem_nil, or_false] at hx
          rcases hx with rfl | rfl
          · rw [toNat_ofNat8 _ (by omega)]; omega
          · rw [toNat_ofNat8 _ (by omega)]; omega
      · refine ⟨_, _, rfl, ?_, by simp, ?_⟩
        · rw [toNat_ofNat8 _ (by omega)]; omega
        · intro x hx
          simp only [List.mem_cons, List.not_mem_nil, or_false] at hx
          rcases hx with rfl | rfl | rfl
          · rw [toNat_ofNat8 _ (by omega)]; omega
          · rw [toNat_ofNat8 _ (by omega)]; omega
          · rw [toNat_ofNat8 _ (by omega)]; omega
  · rw [enc_bad hs]
    refine ⟨_, _, rfl, by decide, by simp, ?_⟩
    intro x hx
    simp only [List.mem_cons, List.not_mem_nil, or_false] at hx
    rcases hx with rfl | rfl <;> decide

/-- A character is read off its bytes. -/
theorem dec_enc {c : Nat} (h : sc c) (t : Bs) : dec (enc c ++ t) = (c, (enc c).length) := by
  have hs := h
  unfold sc at hs
  rw [enc_eq h]
  unfold dec
  by_cases h1 : c < 128
  · rw [if_pos h1, if_neg (by simp), decodeL_N]
    have e : (([UInt8.ofNat c] ++ t).getD 0 0).toNat = c := by
      show (UInt8.ofNat c).toNat = c
      exact toNat_ofNat8 _ (by omega)
    rw [e, decodeN_ascii _ _ _ _ _ h1]
    rfl
  · rw [if_neg h1]
    by_cases h2 : c < 2048
    · rw [if_pos h2, if_neg (by simp), decodeL_N]
      have e0 : (([UInt8.ofNat (192 + c / 64), UInt8.ofNat (128 + c % 64)] ++ t).getD 0 0).toNat = 192 + c / 64 := toNat_ofNat8 _ (by omega)
      have e1 : (([UInt8.ofNat (192 + c / 64), UInt8.ofNat (128 + c % 64)] ++ t).getD 1 0).toNat = 128 + c % 64 := toNat_ofNat8 _ (by omega)
      rw [e0, e1]
      unfold decodeN
      simp only [List.length_append, List.length_cons, List.length_nil]
      repeat' split
      all_goals first | omega | (simp only [Prod.mk.injEq]; omega) | (simp at *; omega)
    · rw [if_neg h2]
      by_cases h3 : c < 65536
      · rw [if_pos h3, if_neg (by simp), decodeL_N]
        have e0 : (([UInt8.ofNat (224 + c / 4096), UInt8.ofNat (128 + c / 64 % 64), UInt8.ofNat (128 + c % 64)] ++ t).getD 0 0).toNat = 224 + c / 4096 := toNat_ofNat8 _ (by omega)
        have e1 : (([UInt8.ofNat (224 + c / 4096), UInt8.ofNat (128 + c / 64 % 64), UInt8.ofNat (128 + c % 64)] ++ t).getD 1 0).toNat = 128 + c / 64 % 64 := toNat_ofNat8 _ (by omega)
        have e2 : (([UInt8.ofNat (224 + c / 4096), UInt8.ofNat (128 + c / 64 % 64), UInt8.ofNat (128 + c % 64)] ++ t).getD 2 0).toNat = 128 + c % 64 := toNat_ofNat8 _ (by omega)
        rw [e0, e1, e2]
        unfold decodeN
        simp only [List.length_append, List.length_cons, List.length_nil]
        repeat' split
        all_goals first | omega | (simp only [Prod.mk.injEq]; omega) | (simp at *; omega)
      · rw [if_neg h3, if_neg (by simp), decodeL_N]
        have e0 : (([UInt8.ofNat (240 + c / 262144), UInt8.ofNat (128 + c / 4096 % 64), UInt8.ofNat (128 + c / 64 % 64), UInt8.ofNat (128 + c % 64)] ++ t).getD 0 0).toNat = 240 + c / 262144 := toNat_ofNat8 _ (by omega)
        have e1 : (([UInt8.ofNat (240 + c / 262144), UInt8.ofNat (128 + c / 4096 % 64), UInt8.ofNat (128 + c / 64 % 64), UInt8.ofNat (128 + c % 64)] ++ t).getD 1 0).toNat = 128 + c / 4096 % 64 := toNat_ofNat8 _ (by omega)
        have e2 : (([UInt8.ofNat (240 + c / 262144), UInt8.ofNat (128 + c / 4096 % 64), UInt8.ofNat (128 + c / 64 % 64), UInt8.ofNat (128 + c % 64)] ++ t).getD 2 0).toNat = 128 + c / 64 % 64 := toNat_ofNat8 _ (by omega)
        have e3 : (([UInt8.ofNat (240 + c / 262144), UInt8.ofNat (128 + c / 4096 % 64), UInt8.ofNat (128 + c / 64 % 64), UInt8.ofNat (128 + c % 64)] ++ t).getD 3 0).toNat = 128 + c % 64 := toNat_ofNat8 _ (by omega)
        rw [e0, e1, e2, e3]
        unfold decodeN
        simp only [List.length_append, List.length_cons, List.length_nil]
        repeat' split
        all_goals first | omega | (simp only [Prod.mk.injEq]; omega) | (simp at *; omega)

theorem dec_not_bad {c : Nat} (h : sc c) (t : Bs) : ¬ badDec (enc c ++ t) := by
  unfold badDec
  rw [dec_enc h t]
  rintro ⟨h1, h2⟩
  simp only at h1 h2
  subst h1
  revert h2
  decide

/-- The bytes of characters. -/
def encs (cs : List Nat) : Bs := cs.flatMap enc
theorem encs_nil : encs [] = [] := rfl
theorem encs_cons (c : Nat) (cs : List Nat) : encs (c :: cs) = enc c ++ encs cs := rfl
theorem encs_append (a b : List Nat) : encs (a ++ b) = encs a ++ encs b := by simp [encs]
def scs (cs : List Nat) : Prop := ∀ c ∈ cs, sc c
theorem scs_cons {c : Nat} {cs : List Nat} : scs (c :: cs) ↔ sc c ∧ scs cs := by simp [scs]
theorem scs_append {a b : List Nat} : scs (a ++ b) ↔ scs a ∧ scs b := by
  unfold scs
  constructor
  · intro h
    exact ⟨fun c hc => h c (List.mem_append.2 (.inl hc)), fun c hc => h c (List.mem_append.2 (.inr hc))⟩
  · rintro ⟨h1, h2⟩ c hc
    rcases List.mem_append.1 hc with h | h
    · exact h1 c h
    · exact h2 c h
theorem encs_nil_iff (cs : List Nat) : encs cs = [] ↔ cs = [] := by
  constructor
  · intro h
    cases cs with
    | nil => rfl
    | cons c cs =>
      rw [encs_cons] at h
      exact absurd (List.append_eq_nil_iff.1 h).1 (enc_ne c)
  · rintro rfl; rfl

theorem runes_encs : ∀ (cs : List Nat), scs cs → runes (encs cs) = cs
  | [], _ => rfl
  | c :: cs, h => by
    obtain ⟨h1, h2⟩ := scs_cons.1 h
    rw [encs_cons, runes_ne _ (by intro e; exact absurd (List.append_eq_nil_iff.1 e).1 (enc_ne c)), dec_enc h1]
    simp only [List.drop_left]
    rw [runes_encs cs h2]

theorem valid_encs : ∀ (cs : List Nat), scs cs → validD (encs cs) = true
  | [], _ => validD_nil
  | c :: cs, h => by
    obtain ⟨h1, h2⟩ := scs_cons.1 h
    have hne : enc c ++ encs cs ≠ [] := by intro e; exact absurd (List.append_eq_nil_iff.1 e).1 (enc_ne c)
    have hd := dec_enc h1 (encs cs)
    have hb := dec_not_bad h1 (encs cs)
    unfold badDec at hb
    unfold dec at hd hb
    rw [if_neg hne] at hd hb
    rw [encs_cons, validD_step _ hne, if_neg hb, hd]
    simp only [List.drop_left]
    exact valid_encs cs h2

theorem dec_sc {l : Bs} (hne : l ≠ []) (h : ¬ badDec l) : sc (dec l).1 ∧ enc (dec l).1 = l.take (dec l).2 := by
  have hb := h
  unfold badDec at hb
  have e : dec l = decodeL l := by unfold dec; rw [if_neg hne]
  rw [e] at hb ⊢
  have hsc : sc (decodeL l).1 := by
    rw [decodeL_N] at hb ⊢
    have k0 := (l.getD 0 0).toNat_lt
    have k1 := (l.getD 1 0).toNat_lt
    rcases decodeN_shape l.length (l.getD 0 0).toNat (l.getD 1 0).toNat (l.getD 2 0).toNat (l.getD 3 0).toNat with ⟨c, e⟩ | ⟨c1, c2, c3, cv, e⟩ | ⟨c1, c2, c3, c4, cv, cs, e⟩ | ⟨c1, c2, c3, c4, c5, cv, cw, e⟩ | e
    all_goals (rw [e] at hb ⊢; unfold sc; dsimp only at hb ⊢; first | omega | exact absurd ⟨rfl, rfl⟩ hb)
  refine ⟨hsc, ?_⟩
  rw [← encode_decode l hne hb]
  -- the two encoders agree
  have hs := hsc
  unfold sc at hs
  obtain ⟨c, hc⟩ : ∃ c, c = (decodeL l).1 := ⟨_, rfl⟩
  rw [← hc] at hsc hs ⊢
  rw [enc_eq hsc]
  unfold encodeRune
  by_cases h1 : c < 128
  · rw [if_pos h1, encodeRuneZ_one (by omega) (by omega)]
    simp only [List.map_cons, List.map_nil]
    rw [Int.toNat_natCast]
  · rw [if_neg h1]
    by_cases h2 : c < 2048
    · rw [if_pos h2, encodeRuneZ_two (by omega) (by omega)]
      simp only [List.map_cons, List.map_nil]
      have e1 : (192 + (c : Int) / 64).toNat = 192 + c / 64 := by omega
      have e2 : (128 + (c : Int) % 64).toNat = 128 + c % 64 := by omega
      rw [e1, e2]
    · rw [if_neg h2]
      by_cases h3 : c < 65536
      · rw [if_pos h3, encodeRuneZ_three (by omega)]
        simp only [List.map_cons, List.map_nil]
        have e1 : (224 + (c : Int) / 4096).toNat = 224 + c / 4096 := by omega
        have e2 : (128 + (c : Int) / 64 % 64).toNat = 128 + c / 64 % 64 := by omega
        have e3 : (128 + (c : Int) % 64).toNat = 128 + c % 64 := by omega
        rw [e1, e2, e3]
      · rw [if_neg h3, encodeRuneZ_four (by omega) (by omega)]
        simp only [List.map_cons, List.map_nil]
        have e1 : (240 + (c : Int) / 262144).toNat = 240 + c / 262144 := by omega
        have e2 : (128 + (c : Int) / 4096 % 64).toNat = 128 + c / 4096 % 64 := by omega
        have e3 : (128 + (c : Int) / 64 % 64).toNat = 128 + c / 64 % 64 := by omega
        have e4 : (128 + (c : Int) % 64).toNat = 128 + c % 64 := by omega
        rw [e1, e2, e3, e4]

/-- A valid text is the bytes of its characters. -/
theorem valid_runes : ∀ (n : Nat) (l : Bs), l.length ≤ n → validD l = true → scs (runes l) ∧ encs (runes l) = l
  | 0, l, h, _ => by
    have : l = [] := List.length_eq_zero_iff.1 (by omega)
    subst this
    exact ⟨by simp [scs, runes_nil], rfl⟩
  | n + 1, l, h, hv => by
    by_cases hne : l = []
    · subst hne
      exact ⟨by simp [scs, runes_nil], rfl⟩
    · have e : dec l = decodeL l := by unfold dec; rw [if_neg hne]
      rw [validD_step l hne] at hv
      have hb : ¬ badDec l := by
        intro hb
        unfold badDec at hb
        rw [e] at hb
        rw [if_pos hb] at hv
        cases hv
      have hb' := hb
      unfold badDec at hb'
      rw [e] at hb'
      rw [if_neg hb', ← e] at hv
      have hge := dec_ge hne
      have hpos := List.length_pos_iff.2 hne
      obtain ⟨i1, i2⟩ := valid_runes n (l.drop (dec l).2) (by rw [List.length_drop]; omega) hv
      obtain ⟨s1, s2⟩ := dec_sc hne hb
      rw [runes_ne l hne]
      exact ⟨scs_cons.2 ⟨s1, i1⟩, by rw [encs_cons, i2, s2, List.take_append_drop]⟩
theorem valid_iff (l : Bs) : validD l = true ↔ ∃ cs, scs cs ∧ l = encs cs :=
  ⟨fun h => ⟨runes l, (valid_runes _ l (Nat.le_refl _) h).1, (valid_runes _ l (Nat.le_refl _) h).2.symm⟩, fun ⟨cs, h, e⟩ => by rw [e]; exact valid_encs cs h⟩

/-- No character's bytes begin another's. -/
theorem enc_prefix {c d : Nat} (hc : sc c) (hd : sc d) (s : Bs) (h : enc c <+: enc d ++ s) : c = d := by
  obtain ⟨r, hr⟩ := h
  have h1 := dec_enc hc r
  have h2 := dec_enc hd s
  rw [hr, h2] at h1
  injection h1 with h1 _
  exact h1.symm
theorem encs_inj {a b : List Nat} (ha : scs a) (hb : scs b) (h : encs a = encs b) : a = b := by
  rw [← runes_encs a ha, h, runes_encs b hb]

theorem encs_slash (cs : List Nat) (h : scs cs) : (encs cs).contains 47 = cs.contains 47 := by
  induction cs with
  | nil => rfl
  | cons c cs ih =>
    obtain ⟨h1, h2⟩ := scs_cons.1 h
    have ih := ih h2
    rw [encs_cons, Bool.eq_iff_iff]
    rw [Bool.eq_iff_iff] at ih
    simp only [List.contains_iff_mem, List.mem_append, List.mem_cons] at ih ⊢
    rw [ih]
    by_cases hc : c < 128
    · rw [enc_ascii hc]
      simp only [List.mem_singleton]
      constructor
      · rintro (h | h)
        · left
          have := congrArg UInt8.toNat h
          rw [toNat_ofNat8 _ (by omega)] at this
          exact this
        · exact .inr h
      · rintro (h | h)
        · left
          subst h
          rfl
        · exact .inr h
    · obtain ⟨b, t, e, h3, h4, h5⟩ := enc_high (c := c) (by omega)
      rw [e]
      constructor
      · rintro (h | h)
        · simp only [List.mem_cons] at h
          rcases h with h | h
          · subst h
            exact absurd h3 (by decide)
          · exact absurd (h5 _ h) (by decide)
        · exact .inr h
      · rintro (h | h)
        · omega
        · exact .inr h

end Go.Proofs.YtcoaoheakeodoaaDoor

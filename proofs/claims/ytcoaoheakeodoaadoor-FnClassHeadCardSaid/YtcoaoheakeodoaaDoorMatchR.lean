/-
  The characters of bytes, as Go's loops over a string and its conversions read them. Conditions: none beyond those of each theorem.
-/
import Derived.Test.YtcoaoheakeodoaaDoorMatchP
import Derived.Laws.RangeAny
namespace Go.Proofs.YtcoaoheakeodoaaDoor
open Go Go.Lib

def runesF : Nat → Bs → List Nat
  | 0, _ => []
  | f + 1, l => if l = [] then [] else (dec l).1 :: runesF f (l.drop (dec l).2)
theorem runesF_fuel : ∀ (f g : Nat) (l : Bs), l.length ≤ f → l.length ≤ g → runesF f l = runesF g l
  | 0, 0, _, _, _ => rfl
  | 0, g + 1, l, h, _ => by
    have : l = [] := List.length_eq_zero_iff.1 (by omega)
    subst this
    rfl
  | f + 1, 0, l, _, h => by
    have : l = [] := List.length_eq_zero_iff.1 (by omega)
    subst this
    rfl
  | f + 1, g + 1, l, hf, hg => by
    unfold runesF
    by_cases h0 : l = []
    · rw [if_pos h0, if_pos h0]
    · have h1 := dec_ge h0
      have h2 := List.length_pos_iff.2 h0
      rw [if_neg h0, if_neg h0, runesF_fuel f g _ (by rw [List.length_drop]; omega) (by rw [List.length_drop]; omega)]

/-- []rune(s). -/
def runes (l : Bs) : List Nat := runesF l.length l
theorem runes_nil : runes [] = [] := rfl
theorem runes_ne (l : Bs) (h : l ≠ []) : runes l = (dec l).1 :: runes (l.drop (dec l).2) := by
  have h1 := dec_ge h
  have h2 := List.length_pos_iff.2 h
  unfold runes
  obtain ⟨n, hn⟩ : ∃ n, l.length = n + 1 := ⟨l.length - 1, by omega⟩
  conv => lhs; rw [hn]; unfold runesF
  rw [if_neg h, runesF_fuel n _ _ (by rw [List.length_drop]; omega) (Nat.le_refl _)]
theorem runes_ascii (b : UInt8) (l : Bs) (h : b.toNat < 128) : runes (b :: l) = b.toNat :: runes l := by
  rw [runes_ne _ (by simp), dec_ascii b l h]
  rfl
theorem runes_len : ∀ (n : Nat) (l : Bs), l.length ≤ n → (runes l).length ≤ l.length
  | 0, l, h => by
    have : l = [] := List.length_eq_zero_iff.1 (by omega)
    subst this
    exact Nat.le_refl _
  | n + 1, l, h => by
    by_cases h0 : l = []
    · subst h0; exact Nat.le_refl _
    · have h1 := dec_ge h0
      have h2 := List.length_pos_iff.2 h0
      rw [runes_ne l h0, List.length_cons]
      have := runes_len n (l.drop (dec l).2) (by rw [List.length_drop]; omega)
      rw [List.length_drop] at this
      omega

/-- The bytes that one character takes, where the first is not ASCII: none is. -/
theorem dec_high {b : UInt8} {l : Bs} (h : 128 ≤ b.toNat) : (∀ k, k < (dec (b :: l)).2 → 128 ≤ ((b :: l).getD k 0).toNat) ∧ 128 ≤ (dec (b :: l)).1 := by
  by_cases hb : badDec (b :: l)
  · obtain ⟨h1, h2⟩ := hb
    rw [h1, h2]
    refine ⟨fun k hk => ?_, by omega⟩
    obtain rfl : k = 0 := by omega
    exact h
  · refine ⟨?_, ?_⟩
    · rcases dec_bytes (by simp) hb with ⟨_, h2⟩ | ⟨_, h2⟩
      · have : ((b :: l).getD 0 0) = b := rfl
        rw [this] at h2
        omega
      · exact h2
    · unfold dec
      rw [if_neg (by simp)]
      exact (decode_high ⟨(b :: l).toArray⟩ 0 (by simp [ByteArray.size]) h).1

/-- A property of ASCII characters holds of no character of bytes exactly if of no byte. -/
theorem runes_all (P : Nat → Bool) (hP : ∀ c, 128 ≤ c → P c = true) : ∀ (n : Nat) (l : Bs), l.length ≤ n → (runes l).all P = l.all fun b => P b.toNat
  | 0, l, h => by
    have : l = [] := List.length_eq_zero_iff.1 (by omega)
    subst this
    rfl
  | n + 1, [], _ => rfl
  | n + 1, b :: l, h => by
    simp only [List.length_cons] at h
    by_cases hb : b.toNat < 128
    · rw [runes_ascii b l hb, List.all_cons, List.all_cons, runes_all P hP n l (by omega)]
    · obtain ⟨h1, h2⟩ := dec_high (l := l) (b := b) (by omega)
      have hge := dec_ge (l := b :: l) (by simp)
      have hle := dec_le (b :: l)
      rw [runes_ne _ (by simp), List.all_cons, hP _ h2, Bool.true_and, runes_all P hP n _ (by rw [List.length_drop]; simp; omega)]
      have e : (b :: l).all (fun b => P b.toNat) = (((b :: l).take (dec (b :: l)).2).all (fun b => P b.toNat) && ((b :: l).drop (dec (b :: l)).2).all (fun b => P b.toNat)) := by
        rw [← List.all_append, List.take_append_drop]
      rw [e]
      have : ((b :: l).take (dec (b :: l)).2).all (fun b => P b.toNat) = true := by
        rw [List.all_eq_true]
        intro x hx
        obtain ⟨k, hk, rfl⟩ := List.getElem_of_mem hx
        have hk' : k < (dec (b :: l)).2 := by simp only [List.length_take] at hk; omega
        have hk2 : k < (b :: l).length := by simp only [List.length_take] at hk; omega
        have := h1 k hk'
        rw [List.getElem_take]
        rw [List.getD_eq_getElem?_getD, List.getElem?_eq_getElem hk2] at this
        exact hP _ this
      rw [this, Bool.true_and]

/-- The decoding at a place of a string. -/
theorem decode_drop (l : Bs) (pos : Nat) (h : pos < l.length) : Utf8.decode ⟨l.toArray⟩ pos = dec (l.drop pos) := by
  unfold dec
  rw [if_neg (by intro e; have := congrArg List.length e; rw [List.length_drop, List.length_nil] at this; omega), decode_at, decodeL_N]
  have g : ∀ k, ((⟨l.toArray⟩ : ByteArray).get! (pos + k)).toNat = ((l.drop pos).getD k 0).toNat := by
    intro k
    show (l.toArray[pos + k]!).toNat = _
    rw [List.getD_eq_getElem?_getD, List.getElem?_drop]
    by_cases hk : pos + k < l.length
    · rw [List.getElem?_eq_getElem hk, getElem!_pos l.toArray _ (by simpa using hk)]
      simp
    · rw [List.getElem?_eq_none (by omega), getElem!_neg l.toArray _ (by simpa using hk)]
      rfl
  have g0 := g 0
  rw [Nat.add_zero] at g0
  rw [g0, g 1, g 2, g 3]
  have : (⟨l.toArray⟩ : ByteArray).size = l.length := by simp [ByteArray.size]
  rw [this, List.length_drop]

end Go.Proofs.YtcoaoheakeodoaaDoor

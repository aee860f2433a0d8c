/-
  Strings of the walks as lists of bytes; []rune(s) and string(runes): what they make. Conditions: none beyond those of each theorem.
-/
import Derived.Test.YtcoaoheakeodoaaDoorUtfA
import Derived.Test.YtcoaoheakeodoaaDoorDrawE
import Derived.Laws.IdiomStrings
namespace Go.Proofs.YtcoaoheakeodoaaDoor
open Go.ChangeShapes Go.WideShapes Go.ChangeAt Go.RowKit

theorem ba_of (s : ByteArray) : s = ⟨s.data.toList.toArray⟩ := by
  obtain ⟨⟨l⟩⟩ := s
  rfl
theorem str_eq {s : ByteArray} {l : List UInt8} (h : s.data.toList = l) : Value.string s = S l := by
  subst h
  obtain ⟨⟨l⟩⟩ := s
  rfl
theorem ret_str {s : ByteArray} {l : List UInt8} (h : s.data.toList = l) : Ending.returned (.string s) = .returned (S l) := by rw [str_eq h]
theorem ba_app (a b : ByteArray) : (a ++ b).data.toList = a.data.toList ++ b.data.toList := by simp
theorem ba_len (s : ByteArray) : s.size = s.data.toList.length := rfl

/-- A slice of characters that is read. -/
def RunesAt (w : World) (a : Option Addr) (len cap : Nat) (cs : List Nat) : Prop :=
  cs.length = len ∧ len ≤ cap ∧ ∀ (j c : Nat), cs[j]? = some c → ∃ g o, a = some ⟨g, o, none⟩ ∧ g < w.heap.size ∧ w.cell? ⟨g, o + j, none⟩ = some (.int .i32 (c : Nat))

theorem RunesAt.grown {w w' : World} {a : Option Addr} {len cap : Nat} {cs : List Nat} {r : Option Nat} (h : RunesAt w a len cap cs) (hg : w.grownBy w' r) (hr : ∀ k : Nat, r = some k → ∀ x : Addr, a = some x → x.block ≠ k) : RunesAt w' a len cap cs := by
  obtain ⟨h1, h2, h3⟩ := h
  refine ⟨h1, h2, fun j c hj => ?_⟩
  obtain ⟨g, o, rfl, hlt, hc⟩ := h3 j c hj
  refine ⟨g, o, rfl, Nat.lt_of_lt_of_le hlt hg.size, hg.cell hc ?_⟩
  intro e
  exact hr g e.symm _ rfl rfl
theorem RunesAt.below {w w' : World} {a : Option Addr} {len cap : Nat} {cs : List Nat} (h : RunesAt w a len cap cs) (hb : Below w.heap.size w w') : RunesAt w' a len cap cs := by
  obtain ⟨h1, h2, h3⟩ := h
  refine ⟨h1, h2, fun j c hj => ?_⟩
  obtain ⟨g, o, rfl, hlt, hc⟩ := h3 j c hj
  exact ⟨g, o, rfl, Nat.lt_of_lt_of_le hlt hb.size, (hb.cell (p := ⟨g, o + j, none⟩) hlt).trans hc⟩

theorem runesFrom_eq (l : Bs) : ∀ (n pos : Nat) (acc : Array Value), l.length ≤ pos + n → Conv.runesFrom ⟨l.toArray⟩ n pos acc = acc ++ ((runes (l.drop pos)).map fun c => Value.int .i32 (c : Nat)).toArray
  | 0, pos, acc, h => by
    rw [List.drop_eq_nil_of_le (by omega)]
    simp [Conv.runesFrom, runes_nil]
  | n + 1, pos, acc, h => by
    unfold Conv.runesFrom
    have hsz : (⟨l.toArray⟩ : ByteArray).size = l.length := by simp [ByteArray.size]
    rw [hsz]
    by_cases hp : pos < l.length
    · have hne : l.drop pos ≠ [] := by intro e; have := congrArg List.length e; rw [List.length_drop, List.length_nil] at this; omega
      have hge := dec_ge hne
      rw [if_pos hp, decode_drop l pos hp]
      show Conv.runesFrom _ n (pos + (dec (l.drop pos)).2) (acc.push (.int .i32 ((dec (l.drop pos)).1 : Nat))) = _
      rw [runesFrom_eq l n _ _ (by omega), runes_ne _ hne, List.drop_drop]
      simp
    · rw [if_neg hp, List.drop_eq_nil_of_le (by omega)]
      simp [runes_nil]

theorem grown_from_drew {w w' : World} {r : Option Nat} (h : w.drew.grownBy w' r) : w.grownBy w' r := ⟨h.os, h.tape, h.output, h.size, h.block⟩

/-- '[]rune(s)'. -/
theorem conv_runes (w : World) (l : Bs) (hl : l.length ≤ 1000000000) : ∃ cap W', (convert 9 36 (S l)).run Tryd.prog w = .ok (.slice (some ⟨w.heap.size, 0, none⟩) (runes l).length cap) W' ∧ RunesAt W' (some ⟨w.heap.size, 0, none⟩) (runes l).length cap (runes l) ∧ w.grownBy W' none ∧ W'.heap.size = w.heap.size + 1 := by
  have hsz : (⟨l.toArray⟩ : ByteArray).size = l.length := by simp [ByteArray.size]
  have he : Conv.runesFrom ⟨l.toArray⟩ (⟨l.toArray⟩ : ByteArray).size 0 #[] = ((runes l).map fun c => Value.int .i32 (c : Nat)).toArray := by
    rw [hsz, runesFrom_eq l _ _ _ (by omega)]
    simp
  have hlen := runes_len _ l (Nat.le_refl _)
  have h := run_runes_of_string (P := Tryd.prog) w 9 36 21 ⟨l.toArray⟩ Tryd.underlying9 Tryd.underlying36 Tryd.underlying21 (by rw [he]; simp; omega)
  rw [he] at h
  have hn : ((runes l).map fun c => Value.int .i32 (c : Nat)).toArray.size = (runes l).length := by simp
  rw [hn] at h
  refine ⟨_, _, h, ⟨rfl, grownCap_ge _ _ _ _, fun j c hj => ⟨w.heap.size, 0, rfl, by simp, ?_⟩⟩, ?_, by simp⟩
  · have hj' : j < (runes l).length := by
      rw [List.getElem?_eq_some_iff] at hj
      exact hj.1
    have hv : (runes l)[j] = c := by
      rw [List.getElem?_eq_getElem hj'] at hj
      injection hj
    unfold World.cell?
    rw [show (w.drew.alloc _).heap[w.heap.size]? = some _ from heap_alloc_new w.drew _]
    simp only [Nat.zero_add]
    rw [Array.getElem?_append_left (by simpa using hj')]
    simp [hj', hv]
  · exact grown_from_drew (World.grownBy_alloc w.drew _ none)

/-- The bytes of runesBytes. -/
theorem runesBytes_eq (cs : List Nat) : (runesBytes (cs.map fun c => ((c : Nat) : Int))).data.toList = encs cs := by
  have key : ∀ (cs : List Nat) (s : ByteArray), ((cs.map fun c => ((c : Nat) : Int)).foldl (fun r n => r ++ Utf8.encode n) s).data.toList = s.data.toList ++ encs cs := by
    intro cs
    induction cs with
    | nil => intro s; simp [encs_nil]
    | cons c cs ih =>
      intro s
      rw [List.map_cons, List.foldl_cons, ih, ba_app, encode_enc, encs_cons, List.append_assoc]
  have := key cs ByteArray.empty
  rw [runesBytes, this]
  rfl

/-- 'string(cs[i:j])'. -/
theorem conv_back {w : World} {a : Option Addr} {len cap : Nat} {cs : List Nat} (h : RunesAt w a len cap cs) : ∃ s : ByteArray, s.data.toList = encs cs ∧ ∀ q, (convert 36 9 (.slice a len cap)).run Tryd.prog (w.drewN q) = .ok (.string s) (w.drewN q) := by
  obtain ⟨h1, h2, h3⟩ := h
  cases a with
  | none =>
    have : cs = [] := by
      cases cs with
      | nil => rfl
      | cons c cs => obtain ⟨g, o, e, _⟩ := h3 0 c rfl; cases e
    subst this
    exact ⟨ByteArray.empty, rfl, fun q => run_convert_runes_nil (w.drewN q) 36 9 21 len cap Tryd.underlying36 Tryd.underlying21 Tryd.underlying9⟩
  | some x =>
    refine ⟨_, runesBytes_eq cs, fun q => ?_⟩
    have := run_convert_runes (P := Tryd.prog) (w.drewN q) 36 9 21 x len cap (cs.map fun c => ((c : Nat) : Int)) (by simp; omega) Tryd.underlying36 Tryd.underlying21 Tryd.underlying9 (fun j hj => by
      have hj' : j < cs.length := by simpa using hj
      obtain ⟨g, o, e, _, hc⟩ := h3 j cs[j] (List.getElem?_eq_getElem hj')
      injection e with e
      subst e
      have e2 : (⟨g, o, none⟩ : Addr).add j = ⟨g, o + j, none⟩ := by unfold Addr.add; split <;> simp_all
      rw [e2]
      show w.cell? _ = _
      rw [hc]
      simp [hj'])
    rw [this, List.take_of_length_le (by simp; omega)]

theorem RunesAt.part {w : World} {a : Option Addr} {len cap : Nat} {cs : List Nat} (h : RunesAt w a len cap cs) (k : Nat) (hk : k ≤ len) : RunesAt w a k cap (cs.take k) := by
  obtain ⟨h1, h2, h3⟩ := h
  refine ⟨by rw [List.length_take]; omega, by omega, fun j c hj => ?_⟩
  rw [List.getElem?_take] at hj
  split at hj
  · exact h3 j c hj
  · cases hj
theorem RunesAt.rest {w : World} {g o : Nat} {len cap : Nat} {cs : List Nat} (h : RunesAt w (some ⟨g, o, none⟩) len cap cs) (k : Nat) (hk : k ≤ len) : RunesAt w (some ⟨g, o + k, none⟩) (len - k) (cap - k) (cs.drop k) := by
  obtain ⟨h1, h2, h3⟩ := h
  refine ⟨by rw [List.length_drop]; omega, by omega, fun j c hj => ?_⟩
  rw [List.getElem?_drop] at hj
  obtain ⟨g', o', e, hl, hc⟩ := h3 (k + j) c hj
  injection e with e
  injection e with e1 e2
  subst e1
  subst e2
  exact ⟨g, o + k, rfl, hl, by rw [Nat.add_assoc]; exact hc⟩

end Go.Proofs.YtcoaoheakeodoaaDoor

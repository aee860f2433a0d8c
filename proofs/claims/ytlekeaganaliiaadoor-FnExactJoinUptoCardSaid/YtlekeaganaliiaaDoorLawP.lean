/-
  Plain laws on the reference's Clean, Base and Join: the parts between slashes, and the rules for two dots, one after the other. Conditions: none beyond those of each theorem.
-/
import Derived.Test.YtlekeaganaliiaaDoorPathT
import Derived.Lib.SplitLaws
import Derived.Lib.SlTrimSet
namespace Go.Proofs.YtlekeaganaliiaaDoor
open Go Go.Lib.Pa

abbrev PL := List (List UInt8)

/-- Cut at the slashes: the elements. -/
theorem split_els : ∀ l : List UInt8, Lib.split l [47] = els l
  | [] => by decide
  | c :: t => by
    have ih := split_els t
    unfold Lib.split at ih ⊢
    by_cases hc : c = 47
    · subst hc
      have hix : Lib.index (47 :: t) [47] = 0 := by simp [Lib.index, List.isPrefixOf]
      rw [Lib.count_cons_eq, Nat.add_comm, Lib.splitK, hix, if_neg (by decide)]
      show [] :: Lib.splitK [47] 0 (Lib.count t [47]) ((47 :: t).drop 1) = _
      rw [List.drop_one, List.tail_cons, ih]
      rfl
    · have hp : ([47] : List UInt8).isPrefixOf (c :: t) = false := by simp [List.isPrefixOf, Ne.symm hc]
      have hix : Lib.index (c :: t) [47] = if Lib.index t [47] == -1 then -1 else Lib.index t [47] + 1 := by rw [Lib.index, hp]; simp
      rw [Lib.count_cons_ne _ _ _ hc]
      have he : els (c :: t) = match els t with | e :: r => (c :: e) :: r | [] => [[c]] := by rw [els, if_neg hc]; cases els t <;> rfl
      rw [he, ← ih]
      cases hk : Lib.count t [47] with
      | zero => rfl
      | succ k =>
        have hm : Lib.index t [47] ≠ -1 := fun e => by rw [Lib.count_miss e] at hk; cases hk
        have hge : ∃ i : Nat, Lib.index t [47] = i := by
          have hib := Lib.indexB_cases ⟨t.toArray⟩ ⟨#[47]⟩
          rcases hib with h | ⟨i, h, _⟩
          · exact absurd h hm
          · exact ⟨i, h⟩
        obtain ⟨i, hi⟩ := hge
        have hi1 : ((i : Int) == -1) = false := by simp
        rw [hi, if_neg (by rw [hi1]; decide)] at hix
        have hi2 : (((i : Int) + 1) == -1) = false := by rw [beq_eq_false_iff_ne]; omega
        have hn : ((i : Int) + 1).toNat = i + 1 := by omega
        rw [Lib.splitK, Lib.splitK, hix, hi, if_neg (by rw [hi2]; decide), if_neg (by rw [hi1]; decide), hn]
        simp only [Int.toNat_natCast, Nat.add_zero, List.take_succ_cons, List.length_singleton]
        show (c :: List.take i t) :: Lib.splitK [47] 0 k ((c :: t).drop (i + 1 + 1)) = _
        rw [List.drop_succ_cons]

/-- An element that stays: neither empty nor a dot alone. -/
def okE (e : List UInt8) : Bool := !(e == []) && !(e == [46])
theorem okE_iff (e : List UInt8) : okE e = true ↔ e ≠ [] ∧ e ≠ [46] := by simp [okE]
def elems (l : List UInt8) : PL := (els l).filter okE
def Some2 (L : PL) : Prop := ∀ x ∈ L, x ≠ [] ∧ x ≠ [46] ∧ 47 ∉ x

theorem elems_ok (l : List UInt8) : Some2 (elems l) := by
  intro x hx
  obtain ⟨h1, h2⟩ := List.mem_filter.1 hx
  have := (okE_iff x).1 h2
  exact ⟨this.1, this.2, els_no47 l x h1⟩

theorem fold_filter (r : Bool) : ∀ (l st : PL), l.foldl (cleanStep r) st = (l.filter okE).foldl (cleanStep r) st
  | [], _ => rfl
  | e :: l, st => by
    by_cases h : okE e = true
    · rw [List.filter_cons_of_pos h, List.foldl_cons, List.foldl_cons, fold_filter r l]
    · rw [List.filter_cons_of_neg h, List.foldl_cons]
      have : cleanStep r st e = st := by
        unfold cleanStep
        rw [if_pos]
        rw [okE_iff] at h
        by_cases h1 : e = []
        · exact .inl h1
        · exact .inr (Classical.byContradiction fun h2 => h ⟨h1, h2⟩)
      rw [this, fold_filter r l]

/-- What the rules make of elements. -/
def red (r : Bool) (L : PL) : PL := (L.foldl (cleanStep r) []).reverse
abbrev dd : List UInt8 := [46, 46]

theorem red_root (L : PL) (h : L[0]? = some dd) : red true (L.drop 1) = red true L := by
  cases L with
  | nil => cases h
  | cons x t => injection h with h; subst h; rfl

theorem step_push (r : Bool) (st : PL) (y : List UInt8) (h1 : y ≠ []) (h2 : y ≠ [46]) (h3 : y ≠ dd) : cleanStep r st y = y :: st := by
  unfold cleanStep
  rw [if_neg (by simp [h1, h2]), if_neg h3]
theorem step_pop (r : Bool) (st : PL) (y : List UInt8) (h3 : y ≠ dd) : cleanStep r (y :: st) dd = st := by
  unfold cleanStep
  rw [if_neg (by decide), if_pos rfl]
  show (if y = [46, 46] then _ else _) = _
  rw [if_neg h3]

theorem red_pair (r : Bool) (L : PL) (hL : Some2 L) (i : Nat) (y : List UInt8) (h1 : L[i + 1]? = some dd) (h0 : L[i]? = some y) (hy : y ≠ dd) : red r (L.take i ++ L.drop (i + 2)) = red r L := by
  have hi : i < L.length := by rw [List.getElem?_eq_some_iff] at h0; exact h0.1
  have hi1 : i + 1 < L.length := by rw [List.getElem?_eq_some_iff] at h1; exact h1.1
  have e0 : L[i] = y := by rw [List.getElem?_eq_getElem hi] at h0; injection h0
  have e1 : L[i + 1] = dd := by rw [List.getElem?_eq_getElem hi1] at h1; injection h1
  have e : L = L.take i ++ y :: dd :: L.drop (i + 2) := by
    conv => lhs; rw [← List.take_append_drop i L]
    rw [List.drop_eq_getElem_cons hi, List.drop_eq_getElem_cons hi1, e0, e1]
  have hyo := hL y (by rw [← e0]; exact List.getElem_mem hi)
  unfold red
  conv => rhs; rw [e]
  rw [List.foldl_append, List.foldl_append, List.foldl_cons, List.foldl_cons, step_push r _ y hyo.1 hyo.2.1 hy, step_pop r _ y hy]

theorem red_done (r : Bool) (L : PL) (hL : Some2 L) (h0 : r = true → L[0]? ≠ some dd) (hp : ∀ i : Nat, L[i + 1]? = some dd → L[i]? = some dd) : red r L = L := by
  have hall : ∀ k : Nat, L[k]? = some dd → r = false ∧ ∀ j, j ≤ k → L[j]? = some dd := by
    intro k
    induction k with
    | zero =>
      intro h
      refine ⟨?_, fun j hj => by obtain rfl : j = 0 := by omega
                                 exact h⟩
      cases r with
      | false => rfl
      | true => exact absurd h (h0 rfl)
    | succ k ih =>
      intro h
      obtain ⟨i1, i2⟩ := ih (hp k h)
      refine ⟨i1, fun j hj => ?_⟩
      by_cases e : j = k + 1
      · subst e; exact h
      · exact i2 j (by omega)
  have hn : ∀ k : Nat, Normal r (L.take k).reverse := by
    intro k
    induction k with
    | zero => exact trivial
    | succ k ih =>
      rw [List.take_add_one]
      cases hk : L[k]? with
      | none => simpa using ih
      | some x =>
        have hx := hL x (List.mem_of_getElem? hk)
        show Normal r (L.take k ++ [x]).reverse
        rw [List.reverse_append]
        refine ⟨⟨hx.1, hx.2.1, hx.2.2⟩, ih, fun e => ?_⟩
        subst e
        obtain ⟨i1, i2⟩ := hall k hk
        refine ⟨i1, fun y hy => ?_⟩
        have hy : y ∈ (L.take k).reverse := hy
        rw [List.mem_reverse, List.mem_iff_getElem?] at hy
        obtain ⟨j, hj⟩ := hy
        have hjk : j < k := by
          have := (List.getElem?_eq_some_iff.1 hj).1
          rw [List.length_take] at this
          omega
        rw [List.getElem?_take_of_lt hjk, i2 j (by omega)] at hj
        injection hj with hj
        exact hj.symm
  have := fold_normal r L.reverse (by have := hn L.length; rwa [List.take_length] at this)
  rw [List.reverse_reverse] at this
  unfold red
  rw [this, List.reverse_reverse]

theorem Some2.drop {L : PL} (h : Some2 L) (k : Nat) : Some2 (L.drop k) := fun x hx => h x (List.mem_of_mem_drop hx)
theorem Some2.two {L : PL} (h : Some2 L) (i j : Nat) : Some2 (L.take i ++ L.drop j) := fun x hx => by
  rcases List.mem_append.1 hx with hx | hx
  · exact h x (List.mem_of_mem_take hx)
  · exact h x (List.mem_of_mem_drop hx)

/-- The reference's Clean, out of what the rules have left. -/
def refOf (r : Bool) (out : List UInt8) : List UInt8 := if r then 47 :: out else if out = [] then [46] else out

theorem ref_clean (l : List UInt8) : refOf (ro l) (J (red (ro l) (elems l))) = clean l := by
  by_cases h : l = []
  · subst h; decide
  · rw [clean_of l h]
    unfold refOf cleanOf red elems kept
    rw [← fold_filter]

/-- The reference's Base. -/
theorem trim_end (l : List UInt8) (h : trimSlashes l ≠ []) : (split (trimSlashes l)).2 ≠ [] := by
  intro e
  have hlast : ∃ c, (trimSlashes l).getLast? = some c ∧ c ≠ 47 := by
    unfold trimSlashes at h ⊢
    rw [List.getLast?_reverse]
    cases hd : l.reverse.dropWhile (· == 47) with
    | nil => rw [hd] at h; exact absurd rfl h
    | cons c t =>
      refine ⟨c, rfl, fun e => ?_⟩
      have := List.head?_dropWhile_not (fun x : UInt8 => x == 47) l.reverse
      rw [hd] at this
      subst e
      simp at this
  obtain ⟨c, hc, hne⟩ := hlast
  rcases split_cases (trimSlashes l) with ⟨hn, e2⟩ | ⟨x, f, hl, hf, e2⟩
  · rw [e2] at e
    exact h e
  · rw [e2] at e
    have e3 : f = [] := e
    subst e3
    rw [hl, List.getLast?_append] at hc
    simp at hc
    exact hne hc.symm

theorem ref_base (l : List UInt8) (h : l ≠ []) : base l = if Lib.trimRightS l [47] = [] then [47] else (split (Lib.trimRightS l [47])).2 := by
  have e : Lib.trimRightS l [47] = trimSlashes l := by
    unfold Lib.trimRightS trimSlashes
    congr 2
    funext b
    exact Lib.contains_one 47 b
  unfold base
  rw [if_neg h, e]
  by_cases ht : trimSlashes l = []
  · rw [if_pos ht, ht]; rfl
  · rw [if_neg ht, if_neg (trim_end l ht)]

/-- Lengths. -/
theorem lens_filter (p : List UInt8 → Bool) : ∀ xs : PL, lens (xs.filter p) ≤ lens xs
  | [] => Nat.le_refl _
  | x :: xs => by
    have := lens_filter p xs
    unfold lens at this ⊢
    rw [List.filter_cons]
    split
    · simp; omega
    · simp; omega
theorem J_len : ∀ xs : PL, (J xs).length ≤ lens xs + xs.length
  | [] => by simp [J, lens, List.intercalate]
  | [x] => by rw [Jo]; simp [lens]
  | x :: y :: xs => by
    rw [Jc]
    have := J_len (y :: xs)
    unfold lens at this ⊢
    simp at this ⊢
    omega

end Go.Proofs.YtlekeaganaliiaaDoor

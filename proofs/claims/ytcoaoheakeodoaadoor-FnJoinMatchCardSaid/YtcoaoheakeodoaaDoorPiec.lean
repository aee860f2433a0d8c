/-
  Several texts in one (PathC, PathT, LawP, LawQ, LawR, DrawD, JoinC, JoinS, DrawQ, PieceC): contracts and plain laws. Conditions: none beyond those of each theorem.
-/
import Derived.Test.YtcoaoheakeodoaaDoorBase
import Derived.Test.YtcoaoheakeodoaaDoorShelf
import Derived.Lib.CleanSame
import Derived.Lib.JoinSame2
import Derived.Lib.CleanLen
import Derived.Lib.SplitLaws
import Derived.Lib.SlTrimSet
import Derived.Test.YtcoaoheakeodoaaDoorLate
import Derived.Lib.Join
import Derived.Test.YtcoaoheakeodoaaDoorDrawC
import Derived.Test.YtcoaoheakeodoaaDoorDrawM
import Derived.Deep.AppendLies
namespace Go.Proofs.YtcoaoheakeodoaaDoor
open Go.ChangeShapes Go.WideShapes Go.ChangeAt Go.RowKit








theorem new_cells (w : World) (t : TypeId) (xs : List (List UInt8)) : ∀ (j : Nat) x, xs[j]? = some x → (w.alloc (.cells (xs.map fun l => S l).toArray t)).cell? ⟨w.heap.size, 0 + j, none⟩ = some (S x) := by
  intro j x hj
  unfold World.cell?
  rw [heap_alloc_new]
  simp [hj]

theorem implJoin (bk o c n : Nat) (xs : List (List UInt8)) (w : World) (hn : xs.length = n) (hcells : ∀ (j : Nat) x, xs[j]? = some x → w.cell? ⟨bk, o + j, none⟩ = some (S x)) (hbk : bk < w.heap.size) (hlen : Lib.Pa.lens xs + xs.length ≤ 281474976710656) :
    Calls Tryd.prog 18 #[.slice (some ⟨bk, o, none⟩) n c] w fun e w' => e = .returned (S (Lib.Pa.join xs)) ∧ Below w.heap.size w w' := by
  subst hn
  have em : (xs.map (fun l : List UInt8 => (⟨l.toArray⟩ : ByteArray))).map (·.data.toList) = xs := by
    rw [List.map_map]
    exact List.map_id' xs
  have hx := Tryd.path_Join_rules bk o c (xs.map (fun l : List UInt8 => (⟨l.toArray⟩ : ByteArray))) w (fun j x hj => by
    rw [List.getElem?_map] at hj
    cases hg : xs[j]? with
    | none => rw [hg] at hj; cases hj
    | some y =>
      rw [hg] at hj
      simp at hj
      subst hj
      exact hcells j y hg) hbk (by rw [em]; simpa using hlen)
  rw [em, List.length_map] at hx
  have HX := Lib.hid hx
  clear hx hcells
  go_enter Tryd.func18, Tryd.ntmps18
  go_wp2_with fail
  refine HX.out.mono ?_
  rintro e w1 ⟨rfl, hb⟩
  have H := Lib.hid hb
  clear hb HX
  go_wp2
  go_ret
  exact ⟨rfl, H.out⟩

end Go.Proofs.YtcoaoheakeodoaaDoor

namespace Go.Proofs.YtcoaoheakeodoaaDoor
open Go Go.Lib.Pa

abbrev J (A : List (List UInt8)) : List UInt8 := ([47] : List UInt8).intercalate A
theorem Jc (y z : List UInt8) (Y : List (List UInt8)) : J (y :: z :: Y) = y ++ 47 :: J (z :: Y) := J_cons y z Y
theorem Jo (y : List UInt8) : J [y] = y := J_one y
def ro (l : List UInt8) : Bool := l.head? == some 47
def kept (l : List UInt8) : List (List UInt8) := (els l).foldl (cleanStep (ro l)) []

def Elem (x : List UInt8) : Prop := x ≠ [] ∧ x ≠ [46] ∧ 47 ∉ x
def Normal (r : Bool) : List (List UInt8) → Prop
  | [] => True
  | x :: t => Elem x ∧ Normal r t ∧ (x = [46, 46] → r = false ∧ ∀ y ∈ t, y = [46, 46])

theorem els_no47 : ∀ (l : List UInt8), ∀ e ∈ els l, 47 ∉ e
  | [] => by simp [els]
  | c :: t => by
    intro e he
    unfold els at he
    split at he
    · rcases List.mem_cons.1 he with rfl | h
      · simp
      · exact els_no47 t e h
    · rename_i hc
      obtain ⟨x, r, hx⟩ := els_ne t
      rw [hx] at he
      have ih := els_no47 t
      rw [hx] at ih
      rcases List.mem_cons.1 he with rfl | h
      · intro hm
        rcases List.mem_cons.1 hm with h | h
        · exact hc h.symm
        · exact ih x (by simp) h
      · exact ih e (by simp [h])

theorem els_one : ∀ (x : List UInt8), 47 ∉ x → els x = [x]
  | [], _ => rfl
  | c :: t, h => by
    have hc : c ≠ 47 := fun e => h (by simp [e])
    have ih := els_one t (fun e => h (by simp [e]))
    unfold els
    rw [if_neg hc, ih]

theorem normal_step (r : Bool) (st : List (List UInt8)) (e : List UInt8) (h : Normal r st) (he : 47 ∉ e) : Normal r (cleanStep r st e) := by
  unfold cleanStep
  split
  · exact h
  · rename_i h0
    have h0' : e ≠ [] ∧ e ≠ [46] := ⟨fun h => h0 (.inl h), fun h => h0 (.inr h)⟩
    split
    · rename_i hdd
      cases st with
      | nil =>
        simp only
        split
        · trivial
        · rename_i hr
          exact ⟨⟨h0'.1, h0'.2, he⟩, trivial, fun _ => ⟨by simpa using hr, by simp⟩⟩
      | cons x t =>
        simp only
        split
        · rename_i hx
          obtain ⟨hx1, hx2, hx3⟩ := h
          exact ⟨⟨h0'.1, h0'.2, he⟩, ⟨hx1, hx2, hx3⟩, fun _ => ⟨(hx3 hx).1, fun y hy => by
            rcases List.mem_cons.1 hy with rfl | hy
            · exact hx
            · exact (hx3 hx).2 y hy⟩⟩
        · exact h.2.1
    · rename_i hdd
      exact ⟨⟨h0'.1, h0'.2, he⟩, h, fun h => absurd h hdd⟩

theorem normal_fold (r : Bool) : ∀ (l st : List (List UInt8)), Normal r st → (∀ e ∈ l, 47 ∉ e) → Normal r (l.foldl (cleanStep r) st)
  | [], st, h, _ => h
  | e :: l, st, h, hl => normal_fold r l _ (normal_step r st e h (hl e (by simp))) (fun x hx => hl x (by simp [hx]))

theorem kept_normal (l : List UInt8) : Normal (ro l) (kept l) := normal_fold _ _ _ trivial (els_no47 l)

theorem step_normal {r : Bool} {x : List UInt8} {t : List (List UInt8)} (h : Normal r (x :: t)) : cleanStep r t x = x :: t := by
  obtain ⟨⟨h1, h2, h3⟩, h4, h5⟩ := h
  by_cases hx : x = [46, 46]
  · obtain ⟨hr, ht⟩ := h5 hx
    subst hr
    subst hx
    cases t with
    | nil => rfl
    | cons y t => rw [ht y (by simp)]; simp [cleanStep]
  · simp [cleanStep, h1, h2, hx]

theorem fold_normal (r : Bool) : ∀ (st : List (List UInt8)), Normal r st → st.reverse.foldl (cleanStep r) [] = st
  | [], _ => rfl
  | x :: t, h => by
    obtain ⟨⟨h1, h2, h3⟩, h4, h5⟩ := h
    rw [List.reverse_cons, List.foldl_append, fold_normal r t h4]
    show cleanStep r t x = x :: t
    by_cases hx : x = [46, 46]
    · obtain ⟨hr, ht⟩ := h5 hx
      subst hr
      subst hx
      cases t with
      | nil => rfl
      | cons y t => rw [ht y (by simp)]; simp [cleanStep]
    · simp [cleanStep, h1, h2, hx]

theorem Normal.elem {r : Bool} : ∀ {st : List (List UInt8)}, Normal r st → ∀ x ∈ st, Elem x
  | [], _, x, hx => by cases hx
  | y :: t, h, x, hx => by
    rcases List.mem_cons.1 hx with rfl | hx
    · exact h.1
    · exact Normal.elem h.2.1 x hx

theorem els_J_plain : ∀ (A : List (List UInt8)), A ≠ [] → (∀ x ∈ A, 47 ∉ x) → els (J A) = A
  | [], h, _ => absurd rfl h
  | y :: Y, _, h => by
    rw [els_J]
    have : ∀ (B : List (List UInt8)), (∀ x ∈ B, 47 ∉ x) → B.flatMap els = B := by
      intro B hB
      induction B with
      | nil => rfl
      | cons b B ih => rw [List.flatMap_cons, els_one b (hB b (by simp)), ih (fun x hx => hB x (by simp [hx]))]; rfl
    exact this _ h

/-- What Clean writes of the elements kept. -/
def cleanOf (r : Bool) (st : List (List UInt8)) : List UInt8 := if r then 47 :: J st.reverse else if J st.reverse = [] then [46] else J st.reverse

theorem clean_of (l : List UInt8) (h : l ≠ []) : clean l = cleanOf (ro l) (kept l) := by
  rw [clean_eq_cleanEls]
  unfold cleanOf kept
  cases hr : ro l with
  | true => rw [cleanEls_abs l h hr, if_pos rfl]
  | false => rw [cleanEls_rel l h hr]; rfl

theorem J_ne {r : Bool} {st : List (List UInt8)} (h : Normal r st) (hst : st ≠ []) : J st.reverse ≠ [] ∧ ro (J st.reverse) = false := by
  have hrev : st.reverse ≠ [] := by simpa using hst
  obtain ⟨y, Y, hy⟩ : ∃ y Y, st.reverse = y :: Y := by
    cases hs : st.reverse with
    | nil => exact absurd hs hrev
    | cons y Y => exact ⟨y, Y, rfl⟩
  have hel : Elem y := h.elem y (by rw [← List.mem_reverse, hy]; simp)
  have := J_head y Y hel.1
  rw [hy]
  refine ⟨this.2, ?_⟩
  unfold ro
  rw [this.1]
  cases y with
  | nil => exact absurd rfl hel.1
  | cons c t =>
    have : c ≠ 47 := fun e => hel.2.2 (by simp [e])
    simpa using this

/-- Clean's own elements: those kept; and it is rooted as the path is. -/
theorem cleanOf_els {r : Bool} {st : List (List UInt8)} (h : Normal r st) : cleanOf r st ≠ [] ∧ ro (cleanOf r st) = r ∧ (els (cleanOf r st)).foldl (cleanStep r) [] = st := by
  have hno : ∀ x ∈ st.reverse, 47 ∉ x := fun x hx => (h.elem x (by simpa using hx)).2.2
  cases r with
  | true =>
    unfold cleanOf
    rw [if_pos rfl]
    refine ⟨by simp, by simp [ro], ?_⟩
    rw [els_slash, List.foldl_cons, step_nil]
    by_cases hst : st = []
    · subst hst; rfl
    · rw [els_J_plain _ (by simpa using hst) hno, fold_normal _ _ h]
  | false =>
    unfold cleanOf
    rw [if_neg (by simp)]
    by_cases hst : st = []
    · subst hst
      exact ⟨by decide, by decide, by decide⟩
    · have := J_ne h hst
      rw [if_neg this.1]
      exact ⟨this.1, this.2, by rw [els_J_plain _ (by simpa using hst) hno, fold_normal _ _ h]⟩

theorem clean_ne (l : List UInt8) : clean l ≠ [] := by
  by_cases h : l = []
  · subst h; decide
  · rw [clean_of l h]; exact (cleanOf_els (kept_normal l)).1
theorem clean_ro (l : List UInt8) : ro (clean l) = ro l := by
  by_cases h : l = []
  · subst h; decide
  · rw [clean_of l h]; exact (cleanOf_els (kept_normal l)).2.1
theorem clean_kept (l : List UInt8) (h : l ≠ []) : kept (clean l) = kept l := by
  unfold kept
  rw [clean_ro l, clean_of l h]
  exact (cleanOf_els (kept_normal l)).2.2

theorem clean_idem (l : List UInt8) : clean (clean l) = clean l := by
  by_cases h : l = []
  · subst h; decide
  · rw [clean_of (clean l) (clean_ne l), clean_kept l h, clean_ro l, ← clean_of l h]

theorem ro_app (a b : List UInt8) (h : a ≠ []) : ro (a ++ b) = ro a := by
  cases a with
  | nil => exact absurd rfl h
  | cons c t => simp [ro]

theorem kept_app (a b : List UInt8) (h : a ≠ []) : kept (a ++ 47 :: b) = (els b).foldl (cleanStep (ro a)) (kept a) := by
  unfold kept
  rw [ro_app a _ h, els_app, List.foldl_append]

theorem clean_app (a b : List UInt8) (h : a ≠ []) : clean (a ++ 47 :: b) = cleanOf (ro a) ((els b).foldl (cleanStep (ro a)) (kept a)) := by
  rw [clean_of _ (by simp), kept_app a b h, ro_app a _ h]

theorem clean_clean_app (a b : List UInt8) (h : a ≠ []) : clean (clean a ++ 47 :: b) = clean (a ++ 47 :: b) := by
  rw [clean_app _ b (clean_ne a), clean_app a b h, clean_ro, clean_kept a h]

/-- A slash more between two parts changes nothing. -/
theorem clean_slashes (a b : List UInt8) (h : a ≠ []) : clean ((a ++ [47]) ++ 47 :: b) = clean (a ++ 47 :: b) := by
  rw [clean_app _ b (by simp), clean_app a b h, ro_app a _ h, kept_app a [] h]
  rfl

theorem clean_slash_end (a : List UInt8) (h : a ≠ []) : clean (a ++ [47]) = clean a := by
  rw [clean_app a [] h, clean_of a h]
  rfl

/-! ### Join -/

theorem join_nil_iff (xs : List (List UInt8)) : join xs = [] ↔ ∀ x ∈ xs, x = [] := by
  unfold join
  split
  · rename_i h
    simp only [true_iff]
    intro x hx
    have := List.filter_eq_nil_iff.1 h x hx
    simpa using this
  · rename_i h
    constructor
    · intro e; exact absurd e (clean_ne _)
    · intro hx
      exact absurd (List.filter_eq_nil_iff.2 (fun x h => by simp [hx x h])) h

theorem join_of_filter (xs ys : List (List UInt8)) (h : xs.filter (· ≠ []) = ys.filter (· ≠ [])) : join xs = join ys := by
  unfold join
  rw [h]

theorem J_app : ∀ (A B : List (List UInt8)), A ≠ [] → B ≠ [] → J (A ++ B) = J A ++ 47 :: J B
  | [], _, h, _ => absurd rfl h
  | [a], b :: B, _, _ => by rw [List.singleton_append, Jc, Jo]
  | [_], [], _, h => absurd rfl h
  | a :: a' :: A, B, _, hB => by
    rw [List.cons_append, List.cons_append, Jc, ← List.cons_append, J_app (a' :: A) B (by simp) hB, Jc, List.append_assoc]
    rfl

theorem J_filter_ne (xs : List (List UInt8)) (h : xs.filter (· ≠ []) ≠ []) : J (xs.filter (· ≠ [])) ≠ [] := by
  cases hx : xs.filter (· ≠ []) with
  | nil => exact absurd hx h
  | cons y Y =>
    have : y ≠ [] := by
      have : y ∈ xs.filter (· ≠ []) := by rw [hx]; simp
      simpa using (List.mem_filter.1 this).2
    exact (J_head y Y this).2

theorem join_join (xs ys : List (List UInt8)) : join (join xs :: ys) = join (xs ++ ys) := by
  by_cases h : xs.filter (· ≠ []) = []
  · have e : join xs = [] := by unfold join; rw [if_pos h]
    rw [e]
    apply join_of_filter
    rw [List.filter_append, h]
    simp
  · have hne := J_filter_ne xs h
    have e : join xs = clean (J (xs.filter (· ≠ []))) := by unfold join; rw [if_neg h]
    have e2 : ∀ zs : List (List UInt8), join (clean (J (xs.filter (· ≠ []))) :: zs) = clean (J (clean (J (xs.filter (· ≠ []))) :: zs.filter (· ≠ []))) := by
      intro zs
      have hf : (clean (J (xs.filter (· ≠ []))) :: zs).filter (· ≠ []) = clean (J (xs.filter (· ≠ []))) :: zs.filter (· ≠ []) := List.filter_cons_of_pos (by simpa using clean_ne _)
      unfold join
      rw [hf, if_neg (by simp)]
    have e3 : join (xs ++ ys) = clean (J (xs.filter (· ≠ []) ++ ys.filter (· ≠ []))) := by
      unfold join
      rw [List.filter_append, if_neg (fun e => h (List.append_eq_nil_iff.1 e).1)]
    rw [e, e2, e3]
    generalize hA : xs.filter (· ≠ []) = A at *
    generalize ys.filter (· ≠ []) = B at *
    cases B with
    | nil => rw [List.append_nil, Jo, clean_idem]
    | cons y Y => rw [J_app _ _ h (by simp), Jc, clean_clean_app _ _ hne]

/-! ### Split, Dir, Base -/

theorem split_cat (l : List UInt8) : (split l).1 ++ (split l).2 = l := by unfold split; exact List.take_append_drop _ _

theorem split_none (l : List UInt8) (h : 47 ∉ l) : split l = ([], l) := by
  unfold split
  have : lastIndexByte l 47 = -1 := by
    rcases lastIndexByte_spec l 47 with ⟨h1, _⟩ | ⟨i, _, hi, _⟩
    · exact h1
    · exact absurd (List.mem_of_getElem? hi) h
  rw [this]
  rfl

theorem split_at (x f : List UInt8) (h : 47 ∉ f) : split (x ++ 47 :: f) = (x ++ [47], f) := by
  have e : lastIndexByte (x ++ 47 :: f) 47 = x.length := by
    apply lastIdx_eq_of
    · simp
    · simp
    · intro j hj _
      rw [List.getElem?_append_right (by omega)]
      obtain ⟨k, hk⟩ : ∃ k, j - x.length = k + 1 := ⟨j - x.length - 1, by omega⟩
      rw [hk, List.getElem?_cons_succ]
      intro hh
      exact h (List.mem_of_getElem? hh)
  unfold split
  rw [e, show ((x.length : Int) + 1).toNat = x.length + 1 by omega]
  rw [show x ++ 47 :: f = (x ++ [47]) ++ f by simp]
  rw [List.take_left' (by simp), List.drop_left' (by simp)]

theorem split_cases (l : List UInt8) : (47 ∉ l ∧ split l = ([], l)) ∨ ∃ x f, l = x ++ 47 :: f ∧ 47 ∉ f ∧ split l = (x ++ [47], f) := by
  by_cases h : 47 ∈ l
  · right
    have hr : 47 ∈ l.reverse := by simpa using h
    obtain ⟨a, b, e, ha⟩ := List.eq_append_cons_of_mem hr
    have hl : l = b.reverse ++ 47 :: a.reverse := by
      have := congrArg List.reverse e
      simpa using this
    have hf : 47 ∉ a.reverse := by simpa using ha
    refine ⟨b.reverse, a.reverse, hl, hf, ?_⟩
    rw [hl]
    exact split_at _ _ hf
  · exact .inl ⟨h, split_none l h⟩

theorem split_no47 (l : List UInt8) : 47 ∉ (split l).2 := by
  rcases split_cases l with ⟨h, e⟩ | ⟨x, f, _, h, e⟩ <;> rw [e] <;> exact h

theorem split_dir_end (l : List UInt8) : (split l).1 = [] ∨ ∃ x, (split l).1 = x ++ [47] := by
  rcases split_cases l with ⟨h, e⟩ | ⟨x, f, _, h, e⟩ <;> rw [e]
  · exact .inl rfl
  · exact .inr ⟨x, rfl⟩

theorem join_two (a b : List UInt8) (ha : a ≠ []) (hb : b ≠ []) : join [a, b] = clean (a ++ 47 :: b) := by
  have e : [a, b].filter (· ≠ []) = [a, b] := by simp [ha, hb]
  unfold join
  rw [e, if_neg (by simp)]
  show clean (J [a, b]) = _
  rw [Jc, Jo]

theorem join_one (a : List UInt8) (ha : a ≠ []) : join [a] = clean a := by
  have e : [a].filter (· ≠ []) = [a] := by simp [ha]
  unfold join
  rw [e, if_neg (by simp)]
  show clean (J [a]) = _
  rw [Jo]

theorem split_join (l : List UInt8) (h : l ≠ []) : join [(split l).1, (split l).2] = clean l := by
  rcases split_cases l with ⟨hn, e⟩ | ⟨x, f, hl, hf, e⟩
  · rw [e]
    show join [[], l] = clean l
    rw [join_of_filter [[], l] [l] (by simp), join_one l h]
  · rw [e]
    show join [x ++ [47], f] = clean l
    by_cases hf0 : f = []
    · subst hf0
      rw [join_of_filter [x ++ [47], []] [x ++ [47]] (by simp), join_one _ (by simp), hl]
    · rw [join_two _ _ (by simp) hf0, hl]
      by_cases hx : x = []
      · subst hx
        show clean ([47] ++ 47 :: f) = clean ([] ++ 47 :: f)
        rw [clean_app [47] f (by simp), clean_of ([] ++ 47 :: f) (by simp)]
        have e1 : ro ([] ++ 47 :: f) = true := rfl
        have e2 : kept ([] ++ 47 :: f) = (els f).foldl (cleanStep true) [] := by
          unfold kept
          rw [e1, List.nil_append, els_slash, List.foldl_cons, step_nil]
        rw [e1, e2]
        rfl
      · rw [clean_slashes x f hx]

theorem J_last (x : List UInt8) (t : List (List UInt8)) : J (x :: t).reverse = (if t = [] then [] else J t.reverse ++ [47]) ++ x := by
  rw [List.reverse_cons]
  split
  · rename_i h; subst h; exact Jo x
  · rename_i h
    rw [J_app _ _ (by simpa using h) (by simp), Jo]
    simp

/-- What stands before the last element. -/
def front (r : Bool) (t : List (List UInt8)) : List UInt8 := if t = [] then (if r then [47] else []) else cleanOf r t ++ [47]

theorem cleanOf_cons {r : Bool} {x : List UInt8} {t : List (List UInt8)} (h : Normal r (x :: t)) : cleanOf r (x :: t) = front r t ++ x := by
  have hJ := J_ne h (by simp)
  have hx := h.1.1
  unfold front
  cases r with
  | true =>
    show 47 :: J (x :: t).reverse = _
    rw [J_last]
    split
    · rfl
    · rfl
  | false =>
    show (if J (x :: t).reverse = [] then [46] else J (x :: t).reverse) = _
    rw [if_neg hJ.1, J_last]
    split
    · rfl
    · rename_i ht
      have := J_ne h.2.1 ht
      show J t.reverse ++ [47] ++ x = (if J t.reverse = [] then [46] else J t.reverse) ++ [47] ++ x
      rw [if_neg this.1]

theorem clean_end (l : List UInt8) (h : (clean l).getLast? = some 47) : clean l = [47] := by
  by_cases hl : l = []
  · subst hl; revert h; decide
  · rw [clean_of l hl] at h ⊢
    have hn := kept_normal l
    generalize kept l = st at *
    generalize ro l = r at *
    cases st with
    | nil => cases r <;> revert h <;> decide
    | cons x t =>
      rw [cleanOf_cons hn] at h
      have hx := hn.1
      rw [List.getLast?_append] at h
      cases hg : x.getLast? with
      | none => exact absurd (List.getLast?_eq_none_iff.1 hg) hx.1
      | some c =>
        rw [hg] at h
        simp at h
        subst h
        exact absurd (List.mem_of_getLast? hg) hx.2.2

theorem last_of_suffix {l : List UInt8} (h : Lib.hasSuffix l [47] = true) : l.getLast? = some 47 := by
  unfold Lib.hasSuffix at h
  obtain ⟨t, rfl⟩ := List.isSuffixOf_iff_suffix.1 h
  simp
theorem suffix_of_last {l : List UInt8} (h : l.getLast? = some 47) : Lib.hasSuffix l [47] = true := by
  unfold Lib.hasSuffix
  obtain ⟨t, rfl⟩ := List.getLast?_eq_some_iff.1 h
  exact List.isSuffixOf_iff_suffix.2 ⟨t, rfl⟩

theorem base_length (l : List UInt8) : (base l).length ≤ l.length + 1 := by
  unfold base
  split
  · simp
  · split
    · simp
    · have h1 : (split (trimSlashes l)).2.length ≤ (trimSlashes l).length := by
        have := congrArg List.length (split_cat (trimSlashes l))
        rw [List.length_append] at this
        omega
      have h2 : (trimSlashes l).length ≤ l.length := by
        unfold trimSlashes
        rw [List.length_reverse]
        have := (List.dropWhile_sublist (· == (47 : UInt8)) (l := l.reverse)).length_le
        rw [List.length_reverse] at this
        exact this
      omega

theorem trim_not (l : List UInt8) (h : l.getLast? ≠ some 47) : trimSlashes l = l := by
  unfold trimSlashes
  cases hr : l.reverse with
  | nil => simpa using hr.symm
  | cons c t =>
    have hc : c ≠ 47 := by
      intro e
      apply h
      rw [List.getLast?_eq_head?_reverse, hr, e]
      rfl
    rw [List.dropWhile_cons_of_neg (by simpa using hc), ← hr, List.reverse_reverse]

theorem trim_slash (l : List UInt8) : trimSlashes (l ++ [47]) = trimSlashes l := by
  unfold trimSlashes
  simp

theorem base_of (l : List UInt8) (hl : l ≠ []) (h : l.getLast? ≠ some 47) : base l = (split l).2 ∧ (split l).2 ≠ [] := by
  have hne : (split l).2 ≠ [] := by
    rcases split_cases l with ⟨_, e⟩ | ⟨x, f, hx, _, e⟩ <;> rw [e]
    · exact hl
    · intro hf
      replace hf : f = [] := hf
      subst hf
      apply h
      rw [hx]
      simp
  refine ⟨?_, hne⟩
  unfold base
  rw [if_neg hl, trim_not l h, if_neg hne]

theorem base_slashes (l : List UInt8) (hl : l ≠ []) (h : l.getLast? ≠ some 47) : base (l ++ [47, 47]) = (split l).2 := by
  have hne := (base_of l hl h).2
  unfold base
  have e : trimSlashes (l ++ [47, 47]) = l := by
    rw [show l ++ [47, 47] = (l ++ [47]) ++ [47] by simp, trim_slash, trim_slash, trim_not l h]
  rw [if_neg (by simp), e, if_neg hne]

theorem isAbs_ro (l : List UInt8) : isAbs l = ro l := rfl

theorem dir_slash (l f : List UInt8) (hf : 47 ∉ f) : dir (l ++ 47 :: f) = clean (l ++ [47]) := by
  unfold dir
  rw [split_at l f hf]

theorem join_parts {r : Bool} {t : List (List UInt8)} {x D : List UInt8} (h : Normal r (x :: t)) (hD : D ≠ []) (hr : ro D = r) (hk : kept D = t) : join [D, x] = cleanOf r (x :: t) := by
  rw [join_two D x hD h.1.1, clean_app D x hD, hr, hk, els_one x h.1.2.2]
  show cleanOf r (cleanStep r t x) = _
  rw [step_normal h]

theorem clean_parts (l : List UInt8) : join [dir (clean l), base (clean l)] = clean l := by
  by_cases hl : l = []
  · subst hl; decide
  · rw [clean_of l hl]
    have hn := kept_normal l
    generalize kept l = st at *
    generalize ro l = r at *
    cases st with
    | nil => cases r <;> decide
    | cons x t =>
      have hx := hn.1
      have hlast : (cleanOf r (x :: t)).getLast? ≠ some 47 := by
        rw [cleanOf_cons hn, List.getLast?_append]
        cases hg : x.getLast? with
        | none => exact absurd (List.getLast?_eq_none_iff.1 hg) hx.1
        | some c => 
          intro e
          simp at e
          subst e
          exact hx.2.2 (List.mem_of_getLast? hg)
      have hsp : split (cleanOf r (x :: t)) = (front r t, x) := by
        rw [cleanOf_cons hn]
        unfold front
        split
        · cases r with
          | true => exact split_at [] x hx.2.2
          | false => exact split_none x hx.2.2
        · rw [List.append_assoc]
          exact split_at _ x hx.2.2
      have hb : base (cleanOf r (x :: t)) = x := by
        rw [(base_of _ (cleanOf_els hn).1 hlast).1, hsp]
      rw [hb]
      unfold dir
      rw [hsp]
      show join [clean (front r t), x] = _
      unfold front
      split
      · rename_i ht
        subst ht
        cases r with
        | true => exact join_parts hn (by decide) (by decide) (by decide)
        | false => exact join_parts hn (by decide) (by decide) (by decide)
      · rename_i ht
        have h3 := cleanOf_els hn.2.1
        have hc : clean (cleanOf r t ++ [47]) = cleanOf r t := by
          rw [clean_slash_end _ h3.1, clean_of _ h3.1]
          unfold kept
          rw [h3.2.1, h3.2.2]
        rw [hc]
        refine join_parts hn h3.1 h3.2.1 ?_
        unfold kept
        rw [h3.2.1, h3.2.2]

end Go.Proofs.YtcoaoheakeodoaaDoor

namespace Go.Proofs.YtcoaoheakeodoaaDoor
open Go Go.Lib.Pa

abbrev PL := List (List UInt8)

/-- Cut at the slashes: the elements. -/
theorem split_els : ∀ l : List UInt8, Lib.split l [47] = els l
  | [] => by decide
  | c :: t => by
    have ih := split_els t
    unfold Lib.split at ih ⊢
    by_cases hc : c = 47
    · subst hc
      have hix : Lib.index (47 :: t) [47] = 0 := by simp [Lib.index, List.isPrefixOf]
      rw [Lib.count_cons_eq, Nat.add_comm, Lib.splitK, hix, if_neg (by decide)]
      show [] :: Lib.splitK [47] 0 (Lib.count t [47]) ((47 :: t).drop 1) = _
      rw [List.drop_one, List.tail_cons, ih]
      rfl
    · have hp : ([47] : List UInt8).isPrefixOf (c :: t) = false := by simp [List.isPrefixOf, Ne.symm hc]
      have hix : Lib.index (c :: t) [47] = if Lib.index t [47] == -1 then -1 else Lib.index t [47] + 1 := by rw [Lib.index, hp]; simp
      rw [Lib.count_cons_ne _ _ _ hc]
      have he : els (c :: t) = match els t with | e :: r => (c :: e) :: r | [] => [[c]] := by rw [els, if_neg hc]; cases els t <;> rfl
      rw [he, ← ih]
      cases hk : Lib.count t [47] with
      | zero => rfl
      | succ k =>
        have hm : Lib.index t [47] ≠ -1 := fun e => by rw [Lib.count_miss e] at hk; cases hk
        have hge : ∃ i : Nat, Lib.index t [47] = i := by
          have hib := Lib.indexB_cases ⟨t.toArray⟩ ⟨#[47]⟩
          rcases hib with h | ⟨i, h, _⟩
          · exact absurd h hm
          · exact ⟨i, h⟩
        obtain ⟨i, hi⟩ := hge
        have hi1 : ((i : Int) == -1) = false := by simp
        rw [hi, if_neg (by rw [hi1]; decide)] at hix
        have hi2 : (((i : Int) + 1) == -1) = false := by rw [beq_eq_false_iff_ne]; omega
        have hn : ((i : Int) + 1).toNat = i + 1 := by omega
        rw [Lib.splitK, Lib.splitK, hix, hi, if_neg (by rw [hi2]; decide), if_neg (by rw [hi1]; decide), hn]
        simp only [Int.toNat_natCast, Nat.add_zero, List.take_succ_cons, List.length_singleton]
        show (c :: List.take i t) :: Lib.splitK [47] 0 k ((c :: t).drop (i + 1 + 1)) = _
        rw [List.drop_succ_cons]

/-- An element that stays: neither empty nor a dot alone. -/
def okE (e : List UInt8) : Bool := !(e == []) && !(e == [46])
theorem okE_iff (e : List UInt8) : okE e = true ↔ e ≠ [] ∧ e ≠ [46] := by simp [okE]
def elems (l : List UInt8) : PL := (els l).filter okE
def Some2 (L : PL) : Prop := ∀ x ∈ L, x ≠ [] ∧ x ≠ [46] ∧ 47 ∉ x

theorem elems_ok (l : List UInt8) : Some2 (elems l) := by
  intro x hx
  obtain ⟨h1, h2⟩ := List.mem_filter.1 hx
  have := (okE_iff x).1 h2
  exact ⟨this.1, this.2, els_no47 l x h1⟩

theorem fold_filter (r : Bool) : ∀ (l st : PL), l.foldl (cleanStep r) st = (l.filter okE).foldl (cleanStep r) st
  | [], _ => rfl
  | e :: l, st => by
    by_cases h : okE e = true
    · rw [List.filter_cons_of_pos h, List.foldl_cons, List.foldl_cons, fold_filter r l]
    · rw [List.filter_cons_of_neg h, List.foldl_cons]
      have : cleanStep r st e = st := by
        unfold cleanStep
        rw [if_pos]
        rw [okE_iff] at h
        by_cases h1 : e = []
        · exact .inl h1
        · exact .inr (Classical.byContradiction fun h2 => h ⟨h1, h2⟩)
      rw [this, fold_filter r l]

/-- What the rules make of elements. -/
def red (r : Bool) (L : PL) : PL := (L.foldl (cleanStep r) []).reverse
abbrev dd : List UInt8 := [46, 46]

theorem red_root (L : PL) (h : L[0]? = some dd) : red true (L.drop 1) = red true L := by
  cases L with
  | nil => cases h
  | cons x t => injection h with h; subst h; rfl

theorem step_push (r : Bool) (st : PL) (y : List UInt8) (h1 : y ≠ []) (h2 : y ≠ [46]) (h3 : y ≠ dd) : cleanStep r st y = y :: st := by
  unfold cleanStep
  rw [if_neg (by simp [h1, h2]), if_neg h3]
theorem step_pop (r : Bool) (st : PL) (y : List UInt8) (h3 : y ≠ dd) : cleanStep r (y :: st) dd = st := by
  unfold cleanStep
  rw [if_neg (by decide), if_pos rfl]
  show (if y = [46, 46] then _ else _) = _
  rw [if_neg h3]

theorem red_pair (r : Bool) (L : PL) (hL : Some2 L) (i : Nat) (y : List UInt8) (h1 : L[i + 1]? = some dd) (h0 : L[i]? = some y) (hy : y ≠ dd) : red r (L.take i ++ L.drop (i + 2)) = red r L := by
  have hi : i < L.length := by rw [List.getElem?_eq_some_iff] at h0; exact h0.1
  have hi1 : i + 1 < L.length := by rw [List.getElem?_eq_some_iff] at h1; exact h1.1
  have e0 : L[i] = y := by rw [List.getElem?_eq_getElem hi] at h0; injection h0
  have e1 : L[i + 1] = dd := by rw [List.getElem?_eq_getElem hi1] at h1; injection h1
  have e : L = L.take i ++ y :: dd :: L.drop (i + 2) := by
    conv => lhs; rw [← List.take_append_drop i L]
    rw [List.drop_eq_getElem_cons hi, List.drop_eq_getElem_cons hi1, e0, e1]
  have hyo := hL y (by rw [← e0]; exact List.getElem_mem hi)
  unfold red
  conv => rhs; rw [e]
  rw [List.foldl_append, List.foldl_append, List.foldl_cons, List.foldl_cons, step_push r _ y hyo.1 hyo.2.1 hy, step_pop r _ y hy]

theorem red_done (r : Bool) (L : PL) (hL : Some2 L) (h0 : r = true → L[0]? ≠ some dd) (hp : ∀ i : Nat, L[i + 1]? = some dd → L[i]? = some dd) : red r L = L := by
  have hall : ∀ k : Nat, L[k]? = some dd → r = false ∧ ∀ j, j ≤ k → L[j]? = some dd := by
    intro k
    induction k with
    | zero =>
      intro h
      refine ⟨?_, fun j hj => by obtain rfl : j = 0 := by omega
                                 exact h⟩
      cases r with
      | false => rfl
      | true => exact absurd h (h0 rfl)
    | succ k ih =>
      intro h
      obtain ⟨i1, i2⟩ := ih (hp k h)
      refine ⟨i1, fun j hj => ?_⟩
      by_cases e : j = k + 1
      · subst e; exact h
      · exact i2 j (by omega)
  have hn : ∀ k : Nat, Normal r (L.take k).reverse := by
    intro k
    induction k with
    | zero => exact trivial
    | succ k ih =>
      rw [List.take_add_one]
      cases hk : L[k]? with
      | none => simpa using ih
      | some x =>
        have hx := hL x (List.mem_of_getElem? hk)
        show Normal r (L.take k ++ [x]).reverse
        rw [List.reverse_append]
        refine ⟨⟨hx.1, hx.2.1, hx.2.2⟩, ih, fun e => ?_⟩
        subst e
        obtain ⟨i1, i2⟩ := hall k hk
        refine ⟨i1, fun y hy => ?_⟩
        have hy : y ∈ (L.take k).reverse := hy
        rw [List.mem_reverse, List.mem_iff_getElem?] at hy
        obtain ⟨j, hj⟩ := hy
        have hjk : j < k := by
          have := (List.getElem?_eq_some_iff.1 hj).1
          rw [List.length_take] at this
          omega
        rw [List.getElem?_take_of_lt hjk, i2 j (by omega)] at hj
        injection hj with hj
        exact hj.symm
  have := fold_normal r L.reverse (by have := hn L.length; rwa [List.take_length] at this)
  rw [List.reverse_reverse] at this
  unfold red
  rw [this, List.reverse_reverse]

theorem Some2.drop {L : PL} (h : Some2 L) (k : Nat) : Some2 (L.drop k) := fun x hx => h x (List.mem_of_mem_drop hx)
theorem Some2.two {L : PL} (h : Some2 L) (i j : Nat) : Some2 (L.take i ++ L.drop j) := fun x hx => by
  rcases List.mem_append.1 hx with hx | hx
  · exact h x (List.mem_of_mem_take hx)
  · exact h x (List.mem_of_mem_drop hx)

/-- The reference's Clean, out of what the rules have left. -/
def refOf (r : Bool) (out : List UInt8) : List UInt8 := if r then 47 :: out else if out = [] then [46] else out

theorem ref_clean (l : List UInt8) : refOf (ro l) (J (red (ro l) (elems l))) = clean l := by
  by_cases h : l = []
  · subst h; decide
  · rw [clean_of l h]
    unfold refOf cleanOf red elems kept
    rw [← fold_filter]

/-- The reference's Base. -/
theorem trim_end (l : List UInt8) (h : trimSlashes l ≠ []) : (split (trimSlashes l)).2 ≠ [] := by
  intro e
  have hlast : ∃ c, (trimSlashes l).getLast? = some c ∧ c ≠ 47 := by
    unfold trimSlashes at h ⊢
    rw [List.getLast?_reverse]
    cases hd : l.reverse.dropWhile (· == 47) with
    | nil => rw [hd] at h; exact absurd rfl h
    | cons c t =>
      refine ⟨c, rfl, fun e => ?_⟩
      have := List.head?_dropWhile_not (fun x : UInt8 => x == 47) l.reverse
      rw [hd] at this
      subst e
      simp at this
  obtain ⟨c, hc, hne⟩ := hlast
  rcases split_cases (trimSlashes l) with ⟨hn, e2⟩ | ⟨x, f, hl, hf, e2⟩
  · rw [e2] at e
    exact h e
  · rw [e2] at e
    have e3 : f = [] := e
    subst e3
    rw [hl, List.getLast?_append] at hc
    simp at hc
    exact hne hc.symm

theorem ref_base (l : List UInt8) (h : l ≠ []) : base l = if Lib.trimRightS l [47] = [] then [47] else (split (Lib.trimRightS l [47])).2 := by
  have e : Lib.trimRightS l [47] = trimSlashes l := by
    unfold Lib.trimRightS trimSlashes
    congr 2
    funext b
    exact Lib.contains_one 47 b
  unfold base
  rw [if_neg h, e]
  by_cases ht : trimSlashes l = []
  · rw [if_pos ht, ht]; rfl
  · rw [if_neg ht, if_neg (trim_end l ht)]

/-- Lengths. -/
theorem lens_filter (p : List UInt8 → Bool) : ∀ xs : PL, lens (xs.filter p) ≤ lens xs
  | [] => Nat.le_refl _
  | x :: xs => by
    have := lens_filter p xs
    unfold lens at this ⊢
    rw [List.filter_cons]
    split
    · simp; omega
    · simp; omega
theorem J_len : ∀ xs : PL, (J xs).length ≤ lens xs + xs.length
  | [] => by simp [J, lens, List.intercalate]
  | [x] => by rw [Jo]; simp [lens]
  | x :: y :: xs => by
    rw [Jc]
    have := J_len (y :: xs)
    unfold lens at this ⊢
    simp at this ⊢
    omega

end Go.Proofs.YtcoaoheakeodoaaDoor

namespace Go.Proofs.YtcoaoheakeodoaaDoor
open Go Go.Lib

theorem tms_nil : Tms [] [] := tms_parse (valid_encs [] (by intro c hc; cases hc)) (by intro t ht; cases ht) (by rfl)
theorem tms_slash : Tms [47] [Tm.chr' 47] := tms_parse (valid_encs [47] (by intro c hc; simp at hc; subst hc; exact .inl (by decide))) (by intro t ht; simp at ht; subst ht; exact .inr (.inr (.inr ⟨rfl, rfl, .inl (by decide)⟩))) (by rfl)

theorem tms_anys : ∀ (k : Nat), Tms (List.replicate k 63) (List.replicate k Tm.any)
  | 0 => tms_nil
  | k + 1 => tms_any.app (tms_anys k)
theorem mtr_anys : ∀ (k : Nat) (s : List Nat), mtr (List.replicate k Tm.any) s = true ↔ s.length = k ∧ 47 ∉ s
  | 0, s => by
    rw [List.replicate_zero, mtr_nil]
    constructor
    · rintro rfl; exact ⟨rfl, by simp⟩
    · rintro ⟨h, _⟩; exact List.length_eq_zero_iff.1 h
  | k + 1, s => by
    rw [List.replicate_succ, mtr_cons_one (by decide)]
    constructor
    · rintro ⟨c, s', rfl, ha, hm⟩
      obtain ⟨h1, h2⟩ := (mtr_anys k s').1 hm
      have hc : c ≠ 47 := by
        have ha' : decide (c ≠ 47) = true := ha
        simpa using ha'
      refine ⟨by rw [List.length_cons, h1], fun h => ?_⟩
      rcases List.mem_cons.1 h with h | h
      · exact hc h.symm
      · exact h2 h
    · rintro ⟨h1, h2⟩
      cases s with
      | nil => cases h1
      | cons c s =>
        refine ⟨c, s, rfl, ?_, (mtr_anys k s).2 ⟨by simpa using h1, fun h => h2 (List.mem_cons_of_mem _ h)⟩⟩
        show decide (c ≠ 47) = true
        exact decide_eq_true (fun e => h2 (by rw [e]; exact List.mem_cons_self))
theorem open_anys : ∀ (k : Nat), openStar (List.replicate k Tm.any) = false
  | 0 => rfl
  | 1 => rfl
  | k + 2 => by
    show openStar (Tm.any :: Tm.any :: List.replicate k Tm.any) = false
    unfold openStar
    rw [Bool.or_eq_false_iff]
    exact ⟨by decide, open_anys (k + 1)⟩
theorem slashClass_anys (k : Nat) : slashClass (List.replicate k Tm.any) = false := by
  unfold slashClass
  rw [List.any_eq_false]
  intro t ht
  rw [List.eq_of_mem_replicate ht]
  decide
/-- FnAnyMany. -/
theorem law_anyMany (k : Nat) {n : Bs} (hv : validD n = true) : mm (List.replicate k 63) n = (decide ((runes n).length = k) && !n.contains 47) ∧ bb (List.replicate k 63) = false := by
  have T := tms_anys k
  refine ⟨?_, bb_of T.all.1⟩
  rw [dcd_mm T hv ⟨.inr (open_anys k), .inl (slashClass_anys k)⟩, contains_runes hv, Bool.eq_iff_iff, mtr_anys]
  simp

/-! ### Slashes between -/
abbrev jn (xs : List Bs) : Bs := Lib.join xs [47]
theorem jn_cons (x y : Bs) (r : List Bs) : jn (x :: y :: r) = x ++ 47 :: jn (y :: r) := Lib.Pa.J_cons x y r
theorem jn_one (x : Bs) : jn [x] = x := Lib.join_one x [47]

theorem nsl_cons {t : Tm} {ts : List Tm} (h : noSlashT (t :: ts) = true) : ¬ (t.kind = 3 ∧ t.chr = 47) ∧ ¬ (t.kind = 2 ∧ adm t 47 = true) ∧ noSlashT ts = true := by
  unfold noSlashT at *
  rw [Bool.and_eq_true, decide_eq_true_iff] at *
  obtain ⟨h1, h2⟩ := h
  unfold slashN slashClass at *
  rw [List.any_cons, Bool.not_eq_true', Bool.or_eq_false_iff] at h2
  rw [List.filter_cons] at h1
  by_cases hk : t.kind = 3 ∧ t.chr = 47
  · rw [if_pos (decide_eq_true hk)] at h1
    cases h1
  · rw [if_neg (by rw [decide_eq_false hk]; decide)] at h1
    refine ⟨hk, fun h => ?_, h1, by rw [h2.2]; rfl⟩
    rw [decide_eq_true h.1, h.2] at h2
    cases h2.1
theorem mtr_no : ∀ (ts : List Tm) (s : List Nat), (∀ t ∈ ts, goodTm t) → noSlashT ts = true → mtr ts s = true → 47 ∉ s
  | [], s, _, _, hm => by
    rw [mtr_nil] at hm
    rw [hm]
    simp
  | t :: ts, s, hg, hn, hm => by
    obtain ⟨n3, n2, n0⟩ := nsl_cons hn
    have hg' : ∀ t ∈ ts, goodTm t := fun x hx => hg x (List.mem_cons_of_mem _ hx)
    by_cases h0 : t.kind = 0
    · obtain ⟨pre, s', rfl, hp, hm'⟩ := (mtr_cons_star h0 ts s).1 hm
      intro h
      rcases List.mem_append.1 h with h | h
      · exact hp h
      · exact mtr_no ts s' hg' n0 hm' h
    · obtain ⟨c, s', rfl, ha, hm'⟩ := (mtr_cons_one h0 ts s).1 hm
      intro h
      rcases List.mem_cons.1 h with h | h
      · subst h
        have hk := good_kind (hg t List.mem_cons_self)
        by_cases k1 : t.kind = 1
        · unfold adm at ha
          rw [if_pos k1] at ha
          simp at ha
        · by_cases k3 : t.kind = 3
          · unfold adm at ha
            rw [if_neg k1, if_pos k3] at ha
            exact n3 ⟨k3, by simpa using (of_decide_eq_true ha).symm⟩
          · exact n2 ⟨by omega, ha⟩
      · exact mtr_no ts s' hg' n0 hm' h

theorem valid_cut : ∀ (s : List Nat) (a b : Bs), scs s → encs s = a ++ 47 :: b → ∃ s1 s2, s = s1 ++ 47 :: s2 ∧ encs s1 = a ∧ encs s2 = b
  | [], a, b, _, h => by
    rw [encs_nil] at h
    cases a <;> cases h
  | c :: s, a, b, hs, h => by
    have hs' : scs s := fun x hx => hs x (List.mem_cons_of_mem _ hx)
    rw [encs_cons] at h
    by_cases hc : c = 47
    · subst hc
      have e47 : enc 47 = [47] := rfl
      rw [e47] at h
      cases a with
      | nil =>
        injection h with _ h
        exact ⟨[], s, rfl, rfl, h⟩
      | cons x a =>
        injection h with h1 h
        obtain ⟨s1, s2, e, e1, e2⟩ := valid_cut s a b hs' h
        exact ⟨47 :: s1, s2, by rw [e]; rfl, by rw [encs_cons, e47, e1, ← h1]; rfl, e2⟩
    · have hno : (47 : UInt8) ∉ enc c := by
        have := enc_count (c := c)
        rw [if_neg hc] at this
        exact List.count_eq_zero.1 this
      rcases List.append_eq_append_iff.1 h with ⟨x, e1, e2⟩ | ⟨x, e1, e2⟩
      · obtain ⟨s1, s2, e, e3, e4⟩ := valid_cut s x b hs' e2
        exact ⟨c :: s1, s2, by rw [e]; rfl, by rw [encs_cons, e3, e1], e4⟩
      · cases x with
        | nil =>
          rw [List.append_nil] at e1
          rw [List.nil_append] at e2
          obtain ⟨s1, s2, e, e3, e4⟩ := valid_cut s [] b hs' (by rw [← e2]; rfl)
          exact ⟨c :: s1, s2, by rw [e]; rfl, by rw [encs_cons, e3, e1, List.append_nil], e4⟩
        | cons y x =>
          exfalso
          injection e2 with e2 _
          exact hno (by rw [e1, ← e2]; simp)
theorem valid_parts {a b : Bs} (hv : validD (a ++ 47 :: b) = true) : validD a = true ∧ validD b = true ∧ runes (a ++ 47 :: b) = runes a ++ 47 :: runes b := by
  obtain ⟨s, hs, e⟩ := (valid_iff _).1 hv
  obtain ⟨s1, s2, rfl, e1, e2⟩ := valid_cut s a b hs e.symm
  obtain ⟨h1, h2⟩ := scs_append.1 hs
  have h3 : scs s2 := fun x hx => h2 x (List.mem_cons_of_mem _ hx)
  refine ⟨by rw [← e1]; exact valid_encs _ h1, by rw [← e2]; exact valid_encs _ h3, ?_⟩
  rw [e, runes_encs _ hs, ← e1, ← e2, runes_encs _ h1, runes_encs _ h3]

/-- One part more, ahead of others. -/
theorem parts_step {p n P N : Bs} {ts TS : List Tm} (T : Tms p ts) (hn : noSlashT ts = true) (h7 : 47 ∉ n) (T2 : Tms P TS) (hv : validD (n ++ 47 :: N) = true) (D : Dcd (ts ++ (Tm.chr' 47 :: TS)) (runes (n ++ 47 :: N))) :
    mm (p ++ 47 :: P) (n ++ 47 :: N) = (mm p n && mm P N) ∧ validD N = true ∧ Dcd TS (runes N) := by
  obtain ⟨v1, v2, hr⟩ := valid_parts hv
  have TT : Tms (p ++ 47 :: P) (ts ++ (Tm.chr' 47 :: TS)) := T.app (tms_slash.app T2)
  have D1 : Dcd ts (runes n) := D.left (fun c hc => by rw [hr]; exact List.mem_append_left _ hc)
  have D2' : Dcd ([Tm.chr' 47] ++ TS) (runes N) := D.right (fun c hc => by rw [hr]; exact List.mem_append_right _ (List.mem_cons_of_mem _ hc))
  have D2 : Dcd TS (runes N) := D2'.right (fun c hc => hc)
  refine ⟨?_, v2, D2⟩
  have h7r : 47 ∉ runes n := by
    have hc := contains_runes v1
    have hc2 : n.contains 47 = false := by simpa using h7
    rw [hc2] at hc
    simpa using hc.symm
  rw [dcd_mm TT hv D, dcd_mm T v1 D1, dcd_mm T2 v2 D2, hr, Bool.eq_iff_iff, Bool.and_eq_true, mtr_append]
  constructor
  · rintro ⟨a, b, e, h1, h2⟩
    obtain ⟨c, b', rfl, hc, h2⟩ := (mtr_cons_one (by show 3 ≠ 0; decide) TS b).1 h2
    have hc47 : c = 47 := by
      have hc' : decide (c = 47) = true := hc
      simpa using hc'
    subst hc47
    have ha := mtr_no ts a T.all.2.1 hn h1
    have key : ∀ (x y a b : List Nat), 47 ∉ x → 47 ∉ a → x ++ 47 :: y = a ++ 47 :: b → x = a ∧ y = b := by
      intro x
      induction x with
      | nil =>
        intro y a b _ h2 e
        cases a with
        | nil => injection e with _ e; exact ⟨rfl, e⟩
        | cons c a => injection e with e _; exact absurd (by rw [← e]; exact List.mem_cons_self) h2
      | cons d x ih =>
        intro y a b h1 h2 e
        cases a with
        | nil => injection e with e _; exact absurd (by rw [e]; exact List.mem_cons_self) h1
        | cons c a =>
          injection e with e1 e2
          obtain ⟨r1, r2⟩ := ih y a b (fun h => h1 (List.mem_cons_of_mem _ h)) (fun h => h2 (List.mem_cons_of_mem _ h)) e2
          exact ⟨by rw [e1, r1], r2⟩
    obtain ⟨r1, r2⟩ := key _ _ _ _ h7r ha e
    rw [r1, r2]
    exact ⟨h1, h2⟩
  · rintro ⟨h1, h2⟩
    exact ⟨runes n, 47 :: runes N, rfl, h1, (mtr_cons_one (by show 3 ≠ 0; decide) TS _).2 ⟨47, runes N, rfl, by show decide (47 = 47) = true; decide, h2⟩⟩

/-- Patterns that match no slash, and names without slashes. -/
def Pieces (L : List (Bs × Bs)) : Prop := ∀ x ∈ L, (∃ ts, Tms x.1 ts ∧ noSlashT ts = true) ∧ 47 ∉ x.2
abbrev ppat (L : List (Bs × Bs)) : Bs := jn (L.map (·.1))
abbrev pname (L : List (Bs × Bs)) : Bs := jn (L.map (·.2))
def pwant (L : List (Bs × Bs)) : Bool := L.all fun x => mm x.1 x.2
theorem pwant_snoc (L : List (Bs × Bs)) (x : Bs × Bs) : pwant (L ++ [x]) = (pwant L && mm x.1 x.2) := by simp [pwant]

theorem nsl_slash {ts us : List Tm} (h : noSlashT ts = true) : slashClass (ts ++ (Tm.chr' 47 :: us)) = slashClass us ∧ slashN (ts ++ (Tm.chr' 47 :: us)) = 1 + slashN us := by
  unfold noSlashT at h
  rw [Bool.and_eq_true, decide_eq_true_iff] at h
  have h2 : slashClass ts = false := by simpa using h.2
  constructor
  · rw [slashClass_app, h2, Bool.false_or]
    rfl
  · unfold slashN at *
    rw [List.filter_append, List.length_append, h.1, Nat.zero_add, List.filter_cons_of_pos (by rfl), List.length_cons]
    omega
theorem count_no {n : Bs} (h : 47 ∉ n) : n.count 47 = 0 := List.count_eq_zero.2 h
theorem pieces_all : ∀ (L : List (Bs × Bs)), Pieces L → ∃ TS, Tms (ppat L) TS ∧ slashClass TS = false ∧ slashN TS = (pname L).count 47 ∧ (validD (pname L) = true → Dcd TS (runes (pname L)) → mm (ppat L) (pname L) = pwant L)
  | [], _ => ⟨[], tms_nil, rfl, rfl, fun hv D => by
    have h := dcd_mm tms_nil hv D
    have e : pname [] = [] := rfl
    rw [e] at h
    exact h⟩
  | [x], h => by
    obtain ⟨⟨ts, T, hn⟩, h7⟩ := h x (by simp)
    have e1 : ppat [x] = x.1 := jn_one x.1
    have e2 : pname [x] = x.2 := jn_one x.2
    rw [e1, e2]
    have hn' := hn
    unfold noSlashT at hn'
    rw [Bool.and_eq_true, decide_eq_true_iff] at hn'
    exact ⟨ts, T, by simpa using hn'.2, by rw [hn'.1, count_no h7], fun _ _ => by simp [pwant]⟩
  | x :: y :: L, h => by
    obtain ⟨⟨ts, T, hn⟩, h7⟩ := h x (by simp)
    obtain ⟨TS, T2, hc, hs, hm⟩ := pieces_all (y :: L) (fun z hz => h z (List.mem_cons_of_mem _ hz))
    have e1 : ppat (x :: y :: L) = x.1 ++ 47 :: ppat (y :: L) := jn_cons _ _ _
    have e2 : pname (x :: y :: L) = x.2 ++ 47 :: pname (y :: L) := jn_cons _ _ _
    rw [e1, e2]
    obtain ⟨s1, s2⟩ := nsl_slash (us := TS) hn
    refine ⟨_, T.app (tms_slash.app T2), by rw [← hc]; exact s1, ?_, fun hv D => ?_⟩
    · have : slashN (ts ++ ([Tm.chr' 47] ++ TS)) = 1 + slashN TS := s2
      rw [this, hs, List.count_append, count_no h7, List.count_cons_self]
      omega
    · obtain ⟨m1, m2, m3⟩ := parts_step T hn h7 T2 hv D
      rw [m1, hm m2 m3]
      rfl
/-- FnParts. -/
theorem law_parts {L : List (Bs × Bs)} (h : Pieces L) (hd : decdB (ppat L) (pname L) = true) : mm (ppat L) (pname L) = pwant L ∧ mm (ppat L) (pname L ++ [47, 97]) = false ∧ mm (ppat L ++ [47, 42]) (pname L) = false := by
  obtain ⟨TS, T, hc, hs, hm⟩ := pieces_all L h
  obtain ⟨hv, D⟩ := decd_dcd T hd
  refine ⟨hm hv D, ?_, ?_⟩
  · cases hb : mm (ppat L) (pname L ++ [47, 97]) with
    | false => rfl
    | true =>
      have := law_slashCount T hc hb
      rw [hs, List.count_append] at this
      have e : ([47, 97] : Bs).count 47 = 1 := by decide
      omega
  · cases hb : mm (ppat L ++ [47, 42]) (pname L) with
    | false => rfl
    | true =>
      have T3 : Tms (ppat L ++ [47, 42]) (TS ++ ([Tm.chr' 47] ++ [Tm.star])) := T.app (tms_slash.app tms_star)
      have hc3 : slashClass (TS ++ ([Tm.chr' 47] ++ [Tm.star])) = false := by
        rw [slashClass_app, hc]
        rfl
      have := law_slashCount T3 hc3 hb
      have e : slashN (TS ++ ([Tm.chr' 47] ++ [Tm.star])) = slashN TS + 1 := by
        unfold slashN
        rw [List.filter_append, List.length_append]
        rfl
      omega
theorem wf_open : wfB [91] = false := by decide

/-! ### The rows of spec.fits -/
/-- A term, and then what fits behind it. -/
def fitT (t : Tm) (f : List Nat → Bool) (s : List Nat) : Bool := if t.kind = 0 then fitStar f s else fitOne t f s
theorem mtr_fitT (t : Tm) (ts : List Tm) : mtr (t :: ts) = fitT t (mtr ts) := by
  funext s
  rfl
theorem fitT_end (t : Tm) (f : List Nat → Bool) : fitT t f [] = (if t.kind = 0 then f [] else false) := by unfold fitT; split <;> rfl
theorem fitT_star {t : Tm} (h : t.kind = 0) (f : List Nat → Bool) (c : Nat) (s : List Nat) : fitT t f (c :: s) = (f (c :: s) || (decide (c ≠ 47) && fitT t f s)) := by
  unfold fitT
  rw [if_pos h, if_pos h]
  rfl
theorem fitT_one {t : Tm} (h : t.kind ≠ 0) (f : List Nat → Bool) (c : Nat) (s : List Nat) : fitT t f (c :: s) = (adm t c && f s) := by
  unfold fitT
  rw [if_neg h]
  rfl

end Go.Proofs.YtcoaoheakeodoaaDoor

namespace Go.Proofs.YtcoaoheakeodoaaDoor
open Go Go.Lib.Pa

theorem trim_nil (l : Bs) : Lib.trimS l [47] = [] ↔ trimSlashes l = [] := by
  have e : Lib.trimRightS l [47] = trimSlashes l := by
    unfold Lib.trimRightS trimSlashes
    congr 2
    funext b
    exact Lib.contains_one 47 b
  unfold Lib.trimS Lib.trimLeftS
  rw [e]
  constructor
  · intro h
    apply Classical.byContradiction
    intro hn
    have hlast : ∃ c, (trimSlashes l).getLast? = some c ∧ c ≠ 47 := by
      unfold trimSlashes at hn ⊢
      rw [List.getLast?_reverse]
      cases hd : l.reverse.dropWhile (· == 47) with
      | nil => rw [hd] at hn; exact absurd rfl hn
      | cons c t =>
        refine ⟨c, rfl, fun e => ?_⟩
        have := List.head?_dropWhile_not (fun x : UInt8 => x == 47) l.reverse
        rw [hd] at this
        subst e
        simp at this
    obtain ⟨c, hc, hne⟩ := hlast
    have hall : ∀ (x : List UInt8), x.dropWhile (([47] : List UInt8).contains ·) = [] → ∀ b ∈ x, b = 47 := by
      intro x
      induction x with
      | nil => intro _ b hb; cases hb
      | cons d x ih =>
        intro hx b hb
        rw [List.dropWhile_cons] at hx
        by_cases hd : (([47] : List UInt8).contains d) = true
        · rw [if_pos hd] at hx
          rcases List.mem_cons.1 hb with rfl | hb
          · simpa using hd
          · exact ih hx b hb
        · rw [if_neg hd] at hx
          cases hx
    exact hne (hall _ h c (List.mem_of_getLast? hc))
  · intro h
    rw [h]
    rfl
theorem base_facts (l : Bs) : base l ≠ [] ∧ (base l = [47] ∨ 47 ∉ base l) ∧ (base l = [47] ↔ l ≠ [] ∧ Lib.trimS l [47] = []) := by
  rw [trim_nil]
  by_cases hl : l = []
  · subst hl
    have e : base [] = [46] := rfl
    rw [e]
    exact ⟨by decide, .inr (by decide), by simp⟩
  · unfold base
    rw [if_neg hl]
    by_cases ht : trimSlashes l = []
    · have e : (split (trimSlashes l)).2 = [] := by rw [ht]; rfl
      rw [if_pos e]
      exact ⟨by decide, .inl rfl, by simp [hl, ht]⟩
    · have e := trim_end l ht
      have h7 := split_no47 (trimSlashes l)
      rw [if_neg e]
      refine ⟨e, .inr h7, ?_⟩
      constructor
      · intro h
        rw [h] at h7
        exact absurd List.mem_cons_self h7
      · rintro ⟨_, h⟩
        exact absurd h ht
/-- FnBaseStar. -/
theorem law_baseStar (l : Bs) : mm [42] (base l) = !(base l == [47]) ∧ (base l).isEmpty = false ∧ (base l == [47]) = (!l.isEmpty && (Lib.trimS l [47]).isEmpty) := by
  obtain ⟨h1, h2, h3⟩ := base_facts l
  refine ⟨?_, by cases h : base l with | nil => exact absurd h h1 | cons => rfl, ?_⟩
  · rw [(law_star (base l)).1]
    rcases h2 with h | h
    · rw [h]; rfl
    · have e1 : (base l).contains 47 = false := by simpa using h
      have e2 : (base l == [47]) = false := by
        rw [beq_eq_false_iff_ne]
        intro e
        rw [e] at h
        exact h List.mem_cons_self
      rw [e1, e2]
  · rw [Bool.eq_iff_iff, beq_iff_eq, h3, Bool.and_eq_true, List.isEmpty_iff]
    simp

theorem base_len (l : Bs) : (base l).length ≤ l.length + 1 := by
  have h1 : (split (trimSlashes l)).2.length ≤ (trimSlashes l).length := by unfold split; simp
  have h2 : (trimSlashes l).length ≤ l.length := by
    unfold trimSlashes
    rw [List.length_reverse]
    have := (List.dropWhile_sublist (fun x : UInt8 => x == 47) (l := l.reverse)).length_le
    rwa [List.length_reverse] at this
  unfold base
  split
  · simp
  · split
    · simp
    · omega

/-- spec.IsElement. -/
def isEl (s : Bs) : Bool := !(s == []) && (!(s == [46]) && (!(s == [46, 46]) && !s.contains 47))
theorem isEl_iff (s : Bs) : isEl s = true ↔ Elem s ∧ s ≠ [46, 46] := by
  unfold isEl Elem
  simp
  constructor
  · rintro ⟨a, b, c, d⟩; exact ⟨⟨a, b, d⟩, c⟩
  · rintro ⟨⟨a, b, d⟩, c⟩; exact ⟨a, b, c, d⟩
theorem normal_all (r : Bool) : ∀ (st : List Bs), (∀ x ∈ st, isEl x = true) → Normal r st
  | [], _ => trivial
  | x :: t, h => by
    obtain ⟨h1, h2⟩ := (isEl_iff x).1 (h x List.mem_cons_self)
    exact ⟨h1, normal_all r t (fun y hy => h y (List.mem_cons_of_mem _ hy)), fun e => absurd e h2⟩
/-- Join of elements is the elements with slashes between them. -/
theorem join_els (xs : List Bs) (hne : xs ≠ []) (h : ∀ x ∈ xs, isEl x = true) : join xs = jn xs := by
  have hn : Normal false xs.reverse := normal_all false _ (fun x hx => h x (by simpa using hx))
  have hf : xs.filter (· ≠ []) = xs := by
    rw [List.filter_eq_self]
    intro x hx
    have := ((isEl_iff x).1 (h x hx)).1.1
    simpa using this
  have hJ := J_ne hn (by simpa using hne)
  rw [List.reverse_reverse] at hJ
  unfold join
  rw [hf, if_neg hne]
  show clean (J xs) = J xs
  have hk : kept (J xs) = xs.reverse := by
    unfold kept
    rw [hJ.2, els_J_plain xs hne (fun x hx => ((isEl_iff x).1 (h x hx)).1.2.2)]
    have := fold_normal false xs.reverse hn
    rwa [List.reverse_reverse] at this
  rw [clean_of _ hJ.1, hJ.2, hk]
  unfold cleanOf
  rw [List.reverse_reverse, if_neg (by decide), if_neg hJ.1]

end Go.Proofs.YtcoaoheakeodoaaDoor

namespace Go.Proofs.YtcoaoheakeodoaaDoor
open Go.ChangeShapes Go.WideShapes Go.ChangeAt Go.RowKit

theorem Strs.base {B B' : Nat} {w : World} {v : Value} {ss : List ByteArray} (h : Strs B w v ss) (hB : B' ≤ B) : Strs B' w v ss := by
  obtain ⟨⟨h1, h2⟩, h3⟩ := h
  refine ⟨⟨h1, ?_⟩, h3⟩
  rcases h2 with h2 | ⟨g, cap, cur, e1, e2, r⟩
  · exact .inl h2
  · exact .inr ⟨g, cap, cur, e1, by omega, r⟩

theorem Strs.made (w : World) (B k : Nat) (hk : w.heap.size = k) (hB : B ≤ k) : Strs B (w.alloc (.cells #[] 9)) (.slice (some ⟨k, 0, none⟩) 0 0) [] := by
  subst hk
  exact ⟨World.ownsRow_made w #[] 0 hB (by unfold maxLen; omega) rfl, by simp⟩


end Go.Proofs.YtcoaoheakeodoaaDoor

namespace Go.Proofs.YtcoaoheakeodoaaDoor
open Go.ChangeShapes Go.WideShapes Go.ChangeAt Go.RowKit

abbrev mk (l : List UInt8) : ByteArray := ⟨l.toArray⟩

theorem map_mk (xs : List (List UInt8)) : (xs.map mk).map Value.string = xs.map fun l => S l := by rw [List.map_map]; rfl

/-- A slice of strings of the call's own, its strings as lists of bytes. -/
def Lists (B : Nat) (w : World) (v : Value) (xs : List (List UInt8)) : Prop := Strs B w v (xs.map mk)
theorem Strs.lists {B : Nat} {w : World} {v : Value} {ss : List ByteArray} (h : Strs B w v ss) : ∃ xs, Lists B w v xs ∧ Lib.Pa.lens xs + xs.length = tot ss := by
  refine ⟨ss.map (·.data.toList), ?_, ?_⟩
  · unfold Lists
    rw [List.map_map]
    have : (mk ∘ fun s : ByteArray => s.data.toList) = id := by funext s; rfl
    rw [this, List.map_id]
    exact h
  · unfold Lib.Pa.lens tot
    rw [List.map_map, List.length_map]
    congr 2

theorem Lists.shape {B : Nat} {w : World} {v : Value} {xs : List (List UInt8)} (h : Lists B w v xs) : ∃ g cap, v = .slice (some ⟨g, 0, none⟩) xs.length cap ∧ B ≤ g ∧ g < w.heap.size ∧ xs.length ≤ cap ∧ cap ≤ maxLen ∧
    ∀ (j : Nat) x, xs[j]? = some x → w.cell? ⟨g, j, none⟩ = some (S x) := by
  obtain ⟨g, cap, e1, e2, e3, e4, e5, e6⟩ := Strs.shape h
  rw [List.length_map] at e1 e4
  exact ⟨g, cap, e1, e2, e3, e4, e5, fun j x hj => e6 j (mk x) (by rw [List.getElem?_map, hj]; rfl)⟩

theorem Lists.kept {B : Nat} {w w' : World} {v : Value} {xs : List (List UInt8)} {r : Option Nat} (h : Lists B w v xs) (hg : w.grownBy w' r) (hr : ∀ k, v.ownBlock = some k → r ≠ some k) : Lists B w' v xs := Strs.kept h hg hr
theorem Lists.blk {B : Nat} {w : World} {v : Value} {xs : List (List UInt8)} (h : Lists B w v xs) : ∀ k, v.ownBlock = some k → B ≤ k ∧ k < w.heap.size := Strs.blk h
theorem Lists.below {B C : Nat} {w w' : World} {v : Value} {xs : List (List UInt8)} (h : Lists B w v xs) (hb : Below C w w') (hC : ∀ k, v.ownBlock = some k → k < C) : Lists B w' v xs := by
  obtain ⟨⟨h1, h2⟩, h3⟩ := h
  refine ⟨⟨h1, ?_⟩, h3⟩
  rcases h2 with h2 | ⟨g, cap, cur, e1, e2, e3, r⟩
  · exact .inl h2
  · subst e1
    exact .inr ⟨g, cap, cur, rfl, e2, by rw [hb.block g (hC g rfl)]; exact e3, r⟩
theorem Lists.own {B : Nat} {w : World} {v : Value} {xs : List (List UInt8)} (h : Lists B w v xs) : w.ownsRow B 9 1 v xs.length (xs.map fun l => S l) := by
  have := h.1
  rw [List.length_map, map_mk] at this
  exact this
theorem Lists.of {B : Nat} {w : World} {v : Value} {n : Nat} {xs : List (List UInt8)} {cs : List Value} (h : w.ownsRow B 9 1 v n cs) (hn : ¬v = .slice none 0 0) (e : xs.length = n) (ec : xs.map (fun l => S l) = cs) : Lists B w v xs := by
  subst e
  subst ec
  exact ⟨by rw [List.length_map, map_mk]; exact h, hn⟩
theorem Lists.made (w : World) (B k : Nat) (hk : w.heap.size = k) (hB : B ≤ k) (xs : List (List UInt8)) (hx : xs.length ≤ 100) : Lists B (w.alloc (.cells (xs.map fun l => S l).toArray 9)) (.slice (some ⟨k, 0, none⟩) xs.length xs.length) xs := by
  subst hk
  refine ⟨⟨by simp, .inr ⟨w.heap.size, xs.length, (xs.map fun l => S l).toArray, by simp, hB, heap_alloc_new w _, by simp, by unfold maxLen; omega, by simp, by rw [map_mk]; simp; exact List.take_of_length_le (by simp)⟩⟩, by simp⟩

theorem Lists.cells {B : Nat} {w : World} {v : Value} {xs : List (List UInt8)} (h : Lists B w v xs) {g cap : Nat} (hv : v = .slice (some ⟨g, 0, none⟩) xs.length cap) : ∀ (j : Nat) u, (xs.map fun l => S l)[j]? = some u → w.cell? ((⟨g, 0, none⟩ : Addr).add j) = some u := by
  subst hv
  exact h.own.cells rfl

theorem all_one (xs : List (List UInt8)) : ∀ u ∈ (xs.map fun l => S l), u.oneCell' = true := by
  intro u hu
  obtain ⟨x, _, rfl⟩ := List.mem_map.1 hu
  rfl

theorem joinOwn (B : Nat) (v : Value) (xs : List (List UInt8)) (w : World) (h : Lists B w v xs) (hlen : Lib.Pa.lens xs + xs.length ≤ 281474976710656) :
    Calls Tryd.prog 18 #[v] w fun e w' => e = .returned (S (Lib.Pa.join xs)) ∧ Below w.heap.size w w' := by
  obtain ⟨g, cap, rfl, _, hg, _, _, hc⟩ := h.shape
  exact implJoin g 0 cap xs.length xs w rfl (fun j x hj => by rw [Nat.zero_add]; exact hc j x hj) hg hlen

end Go.Proofs.YtcoaoheakeodoaaDoor

namespace Go.Proofs.YtcoaoheakeodoaaDoor
open Go.ChangeShapes Go.WideShapes Go.ChangeAt Go.RowKit

theorem joinSlash (B : Nat) (v : Value) (L : PL) (w : World) (h : Lists B w v L) (hl : L.length ≤ 140737488355328) (hj : (J L).length ≤ 140737488355328) :
    Calls Tryd.prog 37 #[v, .string ⟨#[47]⟩] w fun e w' => e = .returned (S (J L)) ∧ Below w.heap.size w w' := by
  obtain ⟨g, cap, rfl, _, hg, hcap, _, hc⟩ := h.shape
  have em : (L.map mk).map (·.data.toList) = L := by
    rw [List.map_map]
    exact List.map_id' L
  have h := Tryd.strings_Join g 0 cap (L.map mk) ⟨#[47]⟩ w (fun j x hj => by
    rw [List.getElem?_map] at hj
    cases hq : L[j]? with
    | none => rw [hq] at hj; cases hj
    | some z =>
      rw [hq] at hj
      have hz : x = mk z := (Option.some.inj hj).symm
      rw [hz, Nat.zero_add]
      exact hc j z hq) hg (by rw [List.length_map]; exact hl) (by rw [List.length_map]; exact hcap) (by rw [em]; exact hj)
  rw [em, List.length_map] at h
  exact h
def neE (x : List UInt8) : Bool := decide (x ≠ [])
theorem take_sift {E : PL} {k : Nat} {x : List UInt8} (h : E[k]? = some x) : (E.take (k + 1)).filter neE = (E.take k).filter neE ++ (if neE x then [x] else []) := by
  rw [List.take_add_one, h]
  show (E.take k ++ [x]).filter neE = _
  rw [List.filter_append]
  by_cases hp : neE x = true
  · rw [if_pos hp, List.filter_cons_of_pos hp]; rfl
  · rw [if_neg hp, List.filter_cons_of_neg hp]; rfl
open Go.Lib.Pa in
theorem join_sift (xs : PL) : join xs = if xs.filter neE = [] then [] else clean (J (xs.filter neE)) := rfl

end Go.Proofs.YtcoaoheakeodoaaDoor

namespace Go.Proofs.YtcoaoheakeodoaaDoor
open Go.ChangeShapes Go.WideShapes Go.ChangeAt Go.RowKit

/-- A term alone in a row. -/
theorem one_term {lo : Nat} {V : World} {h : Nat} (hV : V.heap.size = h) {tk tc : Int} {tn : Bool} {rv : Value} {t : Tm} (ht : TmAt lo V ⟨tk, tc, tn, rv⟩ t) :
    TmsRd 0 (V.alloc (.cells #[.int .i64 tk, .int .i32 tc, .bool tn, rv] 33)) (.slice (some ⟨h, 0, none⟩) 1 1) [t] := by
  subst hV
  obtain ⟨h1, h2, h3, h4, _⟩ := ht
  simp only at h1 h2 h3 h4
  subst h1 h2 h3
  have hr := (h4.rd (lo := 0) (fun _ _ => Nat.zero_le _)).grown (World.grownBy_alloc V (.cells #[.int .i64 (t.kind : Nat), .int .i32 (t.chr : Nat), .bool t.neg, rv] 33) none) (fun _ e => by cases e)
  obtain ⟨b1, b2, b3, b4, _⟩ := blk4 (heap_alloc_new V (.cells #[.int .i64 (t.kind : Nat), .int .i32 (t.chr : Nat), .bool t.neg, rv] 33))
  refine ⟨_, 1, rfl, by simp, fun j u hj => ?_⟩
  match j, hj with
  | 0, hj =>
    simp at hj
    subst hj
    exact ⟨V.heap.size, 0, rv, rfl, Nat.zero_le _, by simp, b1, b2, b3, b4, hr⟩
  | j + 1, hj => simp at hj

theorem Strs.snoc2 {B : Nat} {w : World} {v : Value} {ss : List ByteArray} {n : Nat} {a b : ByteArray} (h : w.ownsRow B 9 1 v n (ss.map Value.string ++ [.string a, .string b])) (hn : ¬v = .slice none 0 0) (e : n = ss.length + 2) : Strs B w v (ss ++ [a, b]) := by
  subst e
  exact ⟨by simpa using h, hn⟩
theorem two_cells (V : World) (h : Nat) (hV : V.heap.size = h) (a b : Value) (t : TypeId) : ∀ (j : Nat) (u : Value), [a, b][j]? = some u → (V.alloc (.cells #[a, b] t)).cell? ((⟨h, 0, none⟩ : Addr).add j) = some u := by
  subst hV
  intro j u hj
  match j, hj with
  | 0, hj => simp at hj; subst hj; simp [Addr.add]
  | 1, hj => simp at hj; subst hj; simp [Addr.add]
  | j + 2, hj => simp at hj
theorem tot_two (ss : List ByteArray) (a b : ByteArray) : tot (ss ++ [a, b]) = tot ss + a.size + b.size + 2 := by
  unfold tot
  simp
  omega

def PiecesRel (w : World) (out n : Value) (wr : World) : Prop :=
  ∃ (k : Nat) (ss : List ByteArray), n = .int .i64 (k : Nat) ∧ k ≤ 3 ∧ Strs (w.heap.size + 1) wr out ss ∧ tot ss + 1000 * k ≤ 3000 ∧ Rd w.heap.size wr w.heap.size (1000 - 200 * k) ∧ Below w.heap.size w wr ∧ w.heap.size + 1 ≤ wr.heap.size
set_option maxHeartbeats 2000000 in
theorem drawPieces_any (a : Option Addr) (len cap : Nat) (zs : List Int) (w : World) (h : IsRow .u8 w a len cap zs) (hlen : len ≤ 1048576) :
    Calls Tryd.prog 14 #[.slice a len cap] w (CutAllPost 1048576 w) := by
  obtain ⟨i0, hi, hz0, hz1, hz2⟩ := info_parts infoStr
  obtain ⟨i1, hi', hz0', hz1', hz2'⟩ := info_parts infoT
  have H0 := Lib.hid h
  clear h
  go_enter Tryd.func14, Tryd.ntmps14
  go_wp2_with fail
  refine (raw_any a len cap zs _ H0.out hlen).mono ?_
  rintro e w' ⟨b, rfl, hb, rfl⟩
  cases b with
  | true =>
    have h1 := hb rfl
    clear hb
    obtain ⟨x, z, rfl, _⟩ := H0.out.byte (i := 0) (by omega)
    have hlc : len ≤ cap := by
      rcases H0.out with ⟨h, _⟩ | ⟨x', hx, hl, _⟩
      · cases h
      · exact hl
    by_cases hc1 : cap = 1
    · obtain rfl : cap = 1 := hc1
      obtain rfl : len = 1 := by omega
      go_wp2_with fail
      refine (cutAll_any (some x) 0 0 [] w IsRow.none_left (by omega)).mono ?_
      rintro e w' ⟨v, ss, rfl, h2, h3, h4⟩
      have H2 := Lib.hid h2
      have H4 := Lib.hid h4
      clear h2 h4
      go_wp2
      go_ret
      exact ⟨v, ss, rfl, H2.out, by omega, H4.out⟩
    · go_wp2_with fail
      refine (cutAll_any (some ⟨x.block, x.off + 1, none⟩) (len - 1) (cap - 1) (zs.drop 1) w (H0.out.part' 1 (len - 1) (by omega) (by omega)) (by omega)).mono ?_
      rintro e w' ⟨v, ss, rfl, h2, h3, h4⟩
      have H2 := Lib.hid h2
      have H4 := Lib.hid h4
      clear h2 h4
      go_wp2
      go_ret
      exact ⟨v, ss, rfl, H2.out, by omega, H4.out⟩
  | false =>
    clear hb
    have hRd0 := Lib.hid (Rd.new w a len cap zs H0.out hlen)
    clear H0
    go_wp2_with fail
    refine (pick_any w.heap.size w.heap.size 0 3 _ (hRd0.out.grown (World.grownBy_alloc _ _ none) (fun k e => by cases e)) (by omega) (by omega)).mono ?_
    rintro e w1 ⟨x, rfl, hx0, hx1, hx2, hRd, hg⟩
    have hO1 : Hid (Strs (w.heap.size + 1) w1 (.slice (some ⟨w.heap.size + 1, 0, none⟩) 0 0) []) := Strs.kept (Strs.made _ _ _ (by simp) (by omega)) hg (fun k hk e => by simp [Value.ownBlock] at hk e; omega)
    have hB1 : Hid (Below w.heap.size w w1) := (((Below.refl _ w).alloc (Nat.le_refl _) _).alloc (by simp) _).grown hg (by simp; omega) (fun k e => by injection e with e; omega)
    have hS1 : w.heap.size + 1 ≤ w1.heap.size := by have := hg.size; simp at this; omega
    have hR1 := Lib.hid hRd
    have hX := hx1 (by omega)
    clear hRd hg hRd0 hx1 hx2
    obtain ⟨k, rfl⟩ := Int.eq_ofNat_of_zero_le hx0
    go_wp2
    go_loopw [4, 5] (fun o n wr => PiecesRel w o n wr) (fun _ n _ => (intOf n).toNat)
    case atStart => exact ⟨1 + k, [], by go_num, by omega, hO1.out, by show 0 + 1000 * (1 + k) ≤ 3000; omega, hR1.out.mono (by omega), hB1.out, hS1⟩
    case round =>
      clear hR1 hB1 hX hx0 hO1 hS1
      obtain ⟨k, ss, rfl, hk, hO, hs, hRd, hBe, hS⟩ := hrel
      obtain ⟨wo, hwo⟩ : ∃ x, x = wr := ⟨_, rfl⟩
      subst hwo
      have hR := Lib.hid hRd
      have hBel := Lib.hid hBe
      have hOw := Lib.hid hO
      clear hRd hBe hO
      by_cases h0 : 0 < k
      · go_wp2_with fail
        refine (pick_any w.heap.size w.heap.size _ 4 _ (hR.out.grown (World.grownBy_alloc _ _ none) (fun k e => by cases e)) (by omega) (by omega)).mono ?_
        rintro e w1 ⟨x, rfl, hx0, hx1, hx2, hRd, hg⟩
        have hX := hx1 (by omega)
        have hlt : w.heap.size < wo.heap.size := by omega
        have hD : Hid (Drew w.heap.size w.heap.size (1000 - 200 * k + 1) wo w1) := ⟨hRd, (World.grownBy_alloc wo (.cells #[] 33) (some w.heap.size)).trans hg⟩
        have hT : Hid (TermsAt wo.heap.size w1 (.slice (some ⟨wo.heap.size, 0, none⟩) 0 0) []) := ⟨World.ownsRow.kept (World.ownsRow_made wo #[] 0 (Nat.le_refl _) (by unfold maxLen; omega) rfl) hg (.inr (by show some wo.heap.size ≠ some w.heap.size; intro e; injection e with e; omega)), fun t ht => by cases ht⟩
        clear hRd hg hR hx1 hx2
        obtain ⟨q, rfl⟩ := Int.eq_ofNat_of_zero_le hx0
        go_wp2
        go_loopw [6, 7] (fun o v wr => TermsRel w.heap.size w.heap.size (1000 - 200 * k) 3 wo o v wr) (fun _ v _ => (intOf v).toNat)
        case atStart => exact ⟨q, [], rfl, by omega, hT.out, by simp, by simp; omega, hD.out.mono (by omega)⟩
        case round =>
          clear hD hT hX hx0
          obtain ⟨q, ts, rfl, hq, hown, hnn, hl1, hDr⟩ := hrel
          have hD := Lib.hid hDr
          have hT := Lib.hid hown
          have hne : Hid (∀ j, u6.ownBlock = some j → wo.heap.size ≤ j ∧ j < wr.heap.size) := fun j hj => hown.1.lt j hj
          have hNN := Lib.hid hnn
          clear hDr hown hnn
          by_cases hq0 : 0 < q
          · go_wp2_with fail
            refine (someTerm_any w.heap.size w.heap.size _ _ hD.out.1 (by omega) (by omega)).mono ?_
            rintro e w2 ⟨t, rfl, hgt, hDr⟩
            have hsz := hD.out.2.size
            have hT2 := Lib.hid (hT.out.kept hDr.2 (fun j e => by injection e with e; omega))
            have hG2 := Lib.hid (hgt.low (lo' := wo.heap.size) hsz)
            have hdis : Hid (∀ j, t.rv.ownBlock = some j → u6.ownBlock ≠ some j) := fun j hj e => by
              obtain ⟨_, _, h2, _⟩ := hgt
              have := (h2 j hj).1
              have := (hne.out j e).2
              omega
            have hs2 := hDr.2.size
            have hD2 := Lib.hid (hD.out.trans hDr)
            clear hDr hD hT hgt
            obtain ⟨ra, rn, rc, hrv⟩ := hG2.out.form
            obtain ⟨tk, tc, tn, trv⟩ := t
            obtain rfl : trv = .slice ra rn rc := hrv
            have hG3 := Lib.hid (hG2.out.grown (World.grownBy_alloc w2 (.cells #[.int .i64 tk, .int .i32 tc, .bool tn, .slice ra rn rc] 33) none) (fun k _ e => by cases e))
            have hT3 := Lib.hid (hT2.out.kept (World.grownBy_alloc w2 (.cells #[.int .i64 tk, .int .i32 tc, .bool tn, .slice ra rn rc] 33) none) (fun _ e => by cases e))
            have hD3 := Lib.hid (hD2.out.more (World.grownBy_alloc w2 (.cells #[.int .i64 tk, .int .i32 tc, .bool tn, .slice ra rn rc] 33) none) hlt (fun _ e => by cases e))
            obtain ⟨tm, htm, ht1, ht2, ht3, ht4⟩ := hG3.out.tm
            have HONE := Lib.hid (one_term (h := w2.heap.size + 1) (by simp) htm)
            obtain ⟨b1, b2, b3, b4, _⟩ := blk4 (heap_alloc_new w2 (.cells #[.int .i64 tk, .int .i32 tc, .bool tn, .slice ra rn rc] 33))
            have hwe : weight [tm] ≤ 100 := by have := weight_len [tm]; simp [weight]; omega
            have HOK : Hid (∀ t ∈ [tm], okNum t) := Lib.hid (fun t ht => by
              obtain rfl := List.mem_singleton.1 ht
              exact drawn_ok ⟨ht1, ht2, ht3, ht4⟩)
            have hW1 : w2.heap.size < (w2.alloc (.cells #[.int .i64 tk, .int .i32 tc, .bool tn, .slice ra rn rc] 33)).heap.size := by simp
            have HB4 := Lib.hid (⟨b1, b2, b3, b4⟩ : _ ∧ _ ∧ _ ∧ _)
            clear htm hG2 hD2 hT2 b1 b2 b3 b4 ht1 ht2 ht3 ht4
            go_wp2_with fail
            refine (noSlash_call 0 _ [tm] _ HONE.out (by simp) (by omega) HOK.out).mono ?_
            rintro e w3 ⟨rfl, hb⟩
            have hb0 := Below.alloc (Below.refl (w2.alloc (.cells #[.int .i64 tk, .int .i32 tc, .bool tn, .slice ra rn rc] 33)).heap.size (w2.alloc (.cells #[.int .i64 tk, .int .i32 tc, .bool tn, .slice ra rn rc] 33))) (Nat.le_refl _) (.cells #[.int .i64 tk, .int .i32 tc, .bool tn, .slice ra rn rc] 33)
            have hb1 := hb0.trans (hb.mono hb0.size)
            have hgr := Below.gr hb1 none
            have hG4 := Lib.hid (hG3.out.grown hgr (fun k _ e => by cases e))
            have hT4 := Lib.hid (hT3.out.kept hgr (fun _ e => by cases e))
            have hD4 := Lib.hid (hD3.out.more hgr hlt (fun _ e => by cases e))
            have c1 := (hb1.cell (p := ⟨w2.heap.size, 0, none⟩) hW1).trans HB4.out.1
            have c2 := (hb1.cell (p := ⟨w2.heap.size, 1, none⟩) hW1).trans HB4.out.2.1
            have c3 := (hb1.cell (p := ⟨w2.heap.size, 2, none⟩) hW1).trans HB4.out.2.2.1
            have c4 := (hb1.cell (p := ⟨w2.heap.size, 3, none⟩) hW1).trans HB4.out.2.2.2
            have hlt3 : w2.heap.size < w3.heap.size := Nat.lt_of_lt_of_le hW1 hb1.size
            clear hb hb0 hb1 hgr hG3 hT3 hD3 HONE HOK HB4 hW1
            generalize noSlashT [tm] = NS
            cases NS with
            | false =>
              go_wp2
              go_roundw
              case rel => exact ⟨q - 1, ts, by go_num, by omega, hT4.out, hNN.out, by omega, hD4.out.mono (by omega)⟩
              case measure => simp [intOf]; omega
            | true =>
              go_wp2_with (at_builtin; refine wpList_append_lies _ rfl _ _ 27 rfl wo.heap.size 33 i1 (.agg #[.int .i64 0, .int .i32 0, .bool false, .slice none 0 0]) 4 40 Tryd.underlying27 hi' hz0' hz1' hz2' rfl (by decide) _ _ _ rfl (hT4.out.1.alloc _) ⟨w3.heap.size, 0, none⟩ 1 1 [.int .i64 tk, .int .i32 tc, .bool tn, .slice ra rn rc] rfl rfl ?c1 ?c2 (by decide) ?c3 ?c4 ?c5 (w3.heap.size + 1) ?c6 ?_)
              case c1 => exact four_cells _ _ _ _ _ _
              case c2 => intro u hu; simp at hu; rcases hu with rfl | rfl | rfl | rfl <;> rfl
              case c3 => unfold maxLen; omega
              case c4 => omega
              case c5 => simp; omega
              case c6 => simp
              · intro g cap w4 hown' hgrow hat hlt4
                have hO4 := Lib.hid (hT4.out.snoc (t := ⟨tk, tc, tn, .slice ra rn rc⟩) hG4.out hdis.out hown' hgrow hat)
                have hD5 := Lib.hid ((hD4.out.more (World.grownBy_alloc w3 (.cells #[.int .i64 tk, .int .i32 tc, .bool tn, .slice ra rn rc] 33) none) hlt (fun _ e => by cases e)).more hgrow hlt (fun j e => (hne.out j e).1))
                clear hown' hgrow hat hlt4 c1 c2 c3 c4
                go_wp2
                go_roundw
                case rel => exact ⟨q - 1, ts ++ [⟨tk, tc, tn, .slice ra rn rc⟩], by go_num, by omega, hO4.out, by simp, by simp; omega, hD5.out.mono (by omega)⟩
                case measure => simp [intOf]; omega
          · obtain rfl : q = 0 := by omega
            have hsz := hD.out.2.size
            have hB2 := Lib.hid (hD.out.below hBel.out (Nat.le_refl _) (by omega))
            have hO2 := Lib.hid (Strs.kept hOw.out hD.out.2 (fun k hk e => by have := (hOw.out.blk k hk).1; injection e with e; omega))
            have hR2 := Lib.hid hD.out.1
            obtain ⟨va, vc, rfl, _⟩ := hT.out.form
            clear hD hBel hOw hNN
            go_wp2_with fail
            refine (writeDrawn w.heap.size w.heap.size _ _ _ ts _ hR2.out hT.out (by omega)).mono ?_
            rintro e w3 ⟨s, rfl, hsl, hRd, hb⟩
            have hT3 := Lib.hid (hT.out.kept (Below.gr hb none) (fun _ e => by cases e))
            have hB3 := Lib.hid (hB2.out.trans (hb.mono hB2.out.size))
            have hO3 := Lib.hid (Strs.kept hO2.out (Below.gr hb none) (fun _ _ e => by cases e))
            have hR3 := Lib.hid hRd
            have hsz3 := hb.size
            clear hRd hb hB2 hO2 hR2 hT
            go_wp2_with fail
            refine (nameFor_any w.heap.size w.heap.size _ _ _ ts _ hR3.out hT3.out hlt (by omega) (by omega) (by omega)).mono ?_
            rintro e w4 ⟨n, rfl, hn, hD⟩
            have hB4 := Lib.hid (hD.below hB3.out (Nat.le_refl _) (by omega))
            have hO4 := Lib.hid (Strs.kept hO3.out hD.2 (fun k hk e => by have := (hO3.out.blk k hk).1; injection e with e; omega))
            have hR4 := Lib.hid hD.1
            have hsz4 := hD.2.size
            have tl := tot_len ss
            have hss : (⟨s.toArray⟩ : ByteArray).size = s.length := by simp [ByteArray.size]
            clear hD hB3 hO3 hR3 hT3
            go_wp2_with (at_builtin; refine wpList_append_own _ rfl _ _ 40 rfl (w.heap.size + 1) 9 i0 (.string ByteArray.empty) 1 16 Tryd.underlying40 hi hz0 hz1 hz2 rfl (by decide) _ _ _ rfl (hO4.out.1.alloc _) ⟨w4.heap.size, 0, none⟩ 2 2 [S s, .string n] rfl rfl ?d1 ?d2 ?d3 ?d4 ?d5 ?_)
            case d1 => exact two_cells _ _ rfl _ _ _
            case d2 => intro u hu; simp at hu; rcases hu with rfl | rfl <;> rfl
            case d3 => unfold maxLen; omega
            case d4 => omega
            case d5 => simp; omega
            · intro v' w5 hown' hgrow hnn
              have hO5 := Lib.hid (Strs.snoc2 hown' hnn rfl)
              have hne5 : ∀ k, u4.ownBlock = some k → w.heap.size + 1 ≤ k := fun k hk => (hO4.out.blk k hk).1
              have hR5 := Lib.hid ((hR4.out.grown (World.grownBy_alloc w4 (.cells #[S s, .string n] 9) none) (fun k e => by cases e)).grown hgrow (fun k e => by have := hne5 _ e; omega))
              have hB5 := Lib.hid ((hB4.out.alloc (by omega) (.cells #[S s, .string n] 9)).grown hgrow (by simp; omega) (fun k e => by have := hne5 _ e; omega))
              have hS5 : w.heap.size + 1 ≤ w5.heap.size := by have := hgrow.size; simp at this; omega
              clear hown' hgrow hnn
              go_wp2
              go_roundw
              case rel => exact ⟨k - 1, ss ++ [⟨s.toArray⟩, n], by go_num, by omega, hO5.out, by rw [tot_two]; omega, hR5.out.mono (by omega), hB5.out, hS5⟩
              case measure => simp [intOf]; omega
      · go_wp2
        go_ret
        exact ⟨_, ss, rfl, hOw.out.base (by omega), by omega, hBel.out⟩

end Go.Proofs.YtcoaoheakeodoaaDoor

namespace Go.Proofs.YtcoaoheakeodoaaDoor
open Go.ChangeShapes Go.WideShapes Go.ChangeAt Go.RowKit

/-- By turns. -/
def prs : List Bs → List (Bs × Bs)
  | a :: b :: r => (a, b) :: prs r
  | _ => []
theorem prs_at : ∀ (xs : List Bs) (k : Nat), 2 * k + 1 < xs.length → ∃ a b, xs[2 * k]? = some a ∧ xs[2 * k + 1]? = some b ∧ (prs xs)[k]? = some (a, b)
  | [], k, h => by simp at h
  | [x], k, h => by simp at h
  | a :: b :: r, 0, _ => ⟨a, b, rfl, rfl, rfl⟩
  | a :: b :: r, k + 1, h => by
    obtain ⟨x, y, h1, h2, h3⟩ := prs_at r k (by simp at h; omega)
    refine ⟨x, y, ?_, ?_, ?_⟩
    · rw [show 2 * (k + 1) = 2 * k + 1 + 1 by omega]; simpa using h1
    · rw [show 2 * (k + 1) + 1 = (2 * k + 1) + 1 + 1 by omega]; simpa using h2
    · show (prs r)[k]? = _
      exact h3
theorem prs_len : ∀ (xs : List Bs), (prs xs).length = xs.length / 2
  | [] => rfl
  | [_] => by simp [prs]
  | a :: b :: r => by
    have := prs_len r
    show (prs r).length + 1 = (r.length + 1 + 1) / 2
    omega
theorem lens_cons (x : Bs) (xs : List Bs) : Lib.Pa.lens (x :: xs) = x.length + Lib.Pa.lens xs := by simp [Lib.Pa.lens]
theorem prs_lens : ∀ (xs : List Bs), Lib.Pa.lens ((prs xs).map (·.1)) + Lib.Pa.lens ((prs xs).map (·.2)) ≤ Lib.Pa.lens xs
  | [] => by simp [prs, Lib.Pa.lens]
  | [_] => by simp [prs, Lib.Pa.lens]
  | a :: b :: r => by
    have := prs_lens r
    show Lib.Pa.lens (a :: (prs r).map (·.1)) + Lib.Pa.lens (b :: (prs r).map (·.2)) ≤ _
    rw [lens_cons, lens_cons, lens_cons, lens_cons]
    omega
theorem lens_mem {xs : List Bs} {x : Bs} (h : x ∈ xs) : x.length ≤ Lib.Pa.lens xs := by
  induction xs with
  | nil => cases h
  | cons y ys ih =>
    rw [lens_cons]
    rcases List.mem_cons.1 h with rfl | h
    · omega
    · have := ih h
      omega
theorem lens_take (xs : List Bs) (k : Nat) : Lib.Pa.lens (xs.take k) ≤ Lib.Pa.lens xs := by
  have h := congrArg Lib.Pa.lens (List.take_append_drop k xs)
  unfold Lib.Pa.lens at h ⊢
  rw [List.map_append, List.sum_append] at h
  omega
theorem take_snocP {L : List (Bs × Bs)} {k : Nat} {x : Bs × Bs} (h : L[k]? = some x) : L.take (k + 1) = L.take k ++ [x] := by
  rw [List.take_add_one, h]
  rfl
theorem Pieces.snoc {L : List (Bs × Bs)} {x : Bs × Bs} (h : Pieces L) (h1 : ∃ ts, Tms x.1 ts ∧ noSlashT ts = true) (h2 : 47 ∉ x.2) : Pieces (L ++ [x]) := by
  intro y hy
  rcases List.mem_append.1 hy with hy | hy
  · exact h y hy
  · obtain rfl := List.mem_singleton.1 hy
    exact ⟨h1, h2⟩

/-- Two rows of strings of the call's own that grow by turns. -/
def Two (lo : Nat) (w : World) (u v : Value) (xs ys : List Bs) : Prop := Lists lo w u xs ∧ Lists lo w v ys ∧ ∀ k, u.ownBlock = some k → v.ownBlock ≠ some k
theorem Two.swap {lo : Nat} {w : World} {u v : Value} {xs ys : List Bs} (h : Two lo w u v xs ys) : Two lo w v u ys xs := ⟨h.2.1, h.1, fun k h1 h2 => h.2.2 k h2 h1⟩
theorem Two.below {lo : Nat} {w w' : World} {u v : Value} {xs ys : List Bs} (h : Two lo w u v xs ys) (hb : Below w.heap.size w w') : Two lo w' u v xs ys :=
  ⟨h.1.below hb (fun k hk => (h.1.blk k hk).2), h.2.1.below hb (fun k hk => (h.2.1.blk k hk).2), h.2.2⟩
theorem Two.add {lo : Nat} {w w' : World} {o : Obj} {u v : Value} {xs ys : List Bs} {x : Bs} {g cap : Nat} (h : Two lo w u v xs ys)
    (hown : w'.ownsRow lo 9 1 (.slice (some ⟨g, 0, none⟩) (xs.length + 1) cap) (xs.length + 1) (xs.map (fun l => S l) ++ [S x])) (hg : (w.alloc o).grownBy w' u.ownBlock) (hat : u.ownBlock = some g ∨ g = w.heap.size + 1) :
    Two lo w' (.slice (some ⟨g, 0, none⟩) (xs.length + 1) cap) v (xs ++ [x]) ys := by
  refine ⟨Lists.of hown (by simp) (by simp) (by simp), (h.2.1.kept (World.grownBy_alloc w o none) (fun _ _ e => by cases e)).kept hg (fun k hk e => h.2.2 k e hk), fun k hk => ?_⟩
  have e' : g = k := by injection hk
  subst e'
  intro hv
  rcases hat with e | e
  · exact h.2.2 g e hv
  · have := (h.2.1.blk g hv).2
    omega
theorem Two.made (w : World) : Two w.heap.size ((w.alloc (.cells #[] 9)).alloc (.cells #[] 9)) (.slice (some ⟨w.heap.size, 0, none⟩) 0 0) (.slice (some ⟨w.heap.size + 1, 0, none⟩) 0 0) [] [] :=
  ⟨(Lists.made w w.heap.size w.heap.size rfl (Nat.le_refl _) [] (by simp)).kept (World.grownBy_alloc _ _ none) (fun _ _ e => by cases e),
   Lists.made (w.alloc (.cells #[] 9)) w.heap.size (w.heap.size + 1) (by simp) (by omega) [] (by simp),
   fun k h1 h2 => by
    have e1 : w.heap.size = k := by injection h1
    have e2 : w.heap.size + 1 = k := by injection h2
    omega⟩
theorem one_at (V : World) (h : Nat) (hV : V.heap.size = h) (a : Value) (t : TypeId) : ∀ (j : Nat) (u : Value), [a][j]? = some u → (V.alloc (.cells #[a] t)).cell? ((⟨h, 0, none⟩ : Addr).add j) = some u := by
  subst hV
  exact one_cells V a t

/-- What laws.pieces returns. -/
def PiPost (xs : List Bs) (w : World) (e : Ending) (w' : World) : Prop :=
  Below w.heap.size w w' ∧ ((Pieces (prs xs) ∧ e = .returned (.tuple #[S (ppat (prs xs)), S (pname (prs xs)), .bool (pwant (prs xs))])) ∨ e = .returned (.tuple #[S [91], S [], .bool false]))
def PiRel (w : World) (L : List (Bs × Bs)) (p n wt i : Value) (wr : World) : Prop :=
  ∃ k : Nat, k ≤ L.length ∧ i = .int .i64 ((2 * k : Nat) : Int) ∧ Two w.heap.size wr p n ((L.take k).map (·.1)) ((L.take k).map (·.2)) ∧ wt = .bool (pwant (L.take k)) ∧ Pieces (L.take k) ∧ Below w.heap.size w wr
set_option maxHeartbeats 2000000 in
theorem pieces_call (ae : Addr) (B : Nat) (v : Value) (xs : List Bs) (w : World) (h : Lists B w v xs) (hE : Env ae w) (hl : Lib.Pa.lens xs + xs.length ≤ 2000000) :
    Calls Tryd.prog 16 #[v] w (PiPost xs w) := by
  obtain ⟨i0, hi, hz0, hz1, hz2⟩ := info_parts infoStr
  obtain ⟨g, cap, rfl, _, hgs, hgc, hgm, hcell⟩ := h.shape
  have HC := Lib.hid hcell
  have HE := Lib.hid hE
  have hpl := prs_len xs
  have hps := prs_lens xs
  have HAT := Lib.hid (prs_at xs)
  have hfd := fld0
  unfold maxLen at hgm
  clear hcell hE h
  have HMK := Lib.hid (Two.made w)
  have hMB : Hid (Below w.heap.size w ((w.alloc (.cells #[] 9)).alloc (.cells #[] 9))) := ((Below.refl _ w).alloc (Nat.le_refl _) _).alloc (by simp) _
  go_enter Tryd.func16, Tryd.ntmps16
  go_wp2
  go_loopw [5, 6, 7, 8] (fun p n wt i wr => PiRel w (prs xs) p n wt i wr) (fun _ _ _ i _ => 2 * xs.length - (intOf i).toNat)
  case atStart => exact ⟨0, Nat.zero_le _, rfl, HMK.out, rfl, fun x hx => by simp at hx, hMB.out⟩
  case round =>
    clear HMK hMB
    obtain ⟨k, hk, rfl, h2, rfl, hP, hb⟩ := hrel
    have HT := Lib.hid h2
    have HP := Lib.hid hP
    have HB := Lib.hid hb
    have hbs := hb.size
    have ek : ((2 * k : Nat) : Int) = 2 * (k : Int) := by omega
    rw [ek]
    clear h2 hP hb ek
    by_cases hlt : 2 * k + 1 < xs.length
    · obtain ⟨x, y, hx, hy, hxy⟩ := HAT.out k hlt
      have c0 : wr.cell? ⟨g, 2 * k, none⟩ = some (S x) := (HB.out.cell (p := ⟨g, 2 * k, none⟩) hgs).trans (HC.out _ x hx)
      have c1 : wr.cell? ⟨g, 2 * k + 1, none⟩ = some (S y) := (HB.out.cell (p := ⟨g, 2 * k + 1, none⟩) hgs).trans (HC.out _ y hy)
      have hxl := lens_mem (List.mem_of_getElem? hx)
      have hyl := lens_mem (List.mem_of_getElem? hy)
      have HTK := Lib.hid (take_snocP hxy)
      have HE1 := Lib.hid (HE.out.on (HB.out.mono (by omega : w.heap.size ≤ w.heap.size)))
      have hz0' : (0 : Int) ≤ 2 * (k : Int) := by omega
      have hz1' : 2 * (k : Int) + 1 < (xs.length : Int) := by omega
      have hz2' : 2 * (k : Int) < (xs.length : Int) := by omega
      clear hx hy hxy HC
      go_wp2_with fail
      refine (wellFormedB ae _ x wr HE1.out rfl (by omega)).mono ?_
      rintro e w1 ⟨rfl, hb⟩
      have HE2 := Lib.hid (HE1.out.on hb)
      have HB2 := Lib.hid (HB.out.trans (hb.mono HB.out.size))
      have HT2 := Lib.hid (HT.out.below hb)
      have c12 := (hb.cell (p := ⟨g, 2 * k + 1, none⟩) (by show g < _; omega)).trans c1
      have hs1 := hb.size
      clear hb HE1 HB HT c0 c1
      generalize hWF : wfB x = W
      have HWF := Lib.hid hWF
      clear hWF
      cases W with
      | false =>
        go_wp2
        go_ret3
        exact ⟨HB2.out, .inr rfl⟩
      | true =>
        obtain ⟨ts, hT⟩ := tms_of HWF.out
        have hgood := hT.all.2.1
        have hwt := read_weight' x ts hT.2
        have hwl := weight_len ts
        have HG : Hid (∀ t ∈ ts, okNum t) := Lib.hid (fun t ht => good_ok (hgood t ht))
        have HTM := Lib.hid hT
        clear hT hgood HWF
        go_wp2_with fail
        refine (readB _ x w1 rfl (by omega)).mono ?_
        rintro e w3 ⟨hb, va, vn, vc, rfl, hts⟩
        obtain ⟨rfl, htm⟩ := hts ts HTM.out.2
        have HR3 := Lib.hid htm
        have HE3 := Lib.hid (HE2.out.on hb)
        have HB3 := Lib.hid (HB2.out.trans (hb.mono HB2.out.size))
        have HT3 := Lib.hid (HT2.out.below hb)
        have hs3 := hb.size
        generalize rdOk x = OK
        generalize rdSet x = ST
        clear hb HE2 HB2 HT2 hts htm
        go_wp2_with fail
        refine (noSlash_call _ _ ts w3 HR3.out (by omega) (by omega) HG.out).mono ?_
        rintro e w4 ⟨rfl, hb⟩
        have HE4 := Lib.hid (HE3.out.on hb)
        have HB4 := Lib.hid (HB3.out.trans (hb.mono HB3.out.size))
        have HT4 := Lib.hid (HT3.out.below hb)
        have hs4 := hb.size
        clear hb HE3 HB3 HT3 HR3 HG
        generalize hNS : noSlashT ts = NS
        have HNS := Lib.hid hNS
        clear hNS
        cases NS with
        | false =>
          go_wp2
          go_ret3
          exact ⟨HB4.out, .inr rfl⟩
        | true =>
          go_wp2_with fail
          refine (slashB _ y w4 rfl).mono ?_
          rintro e w5 ⟨rfl, hb⟩
          have HE5 := Lib.hid (HE4.out.on hb)
          have HB5 := Lib.hid (HB4.out.trans (hb.mono HB4.out.size))
          have HT5 := Lib.hid (HT4.out.below hb)
          have hs5 := hb.size
          clear hb HE4 HB4 HT4
          generalize hCS : y.contains 47 = CS
          have HCS := Lib.hid hCS
          clear hCS
          cases CS with
          | true =>
            go_wp2
            go_ret3
            exact ⟨HB5.out, .inr rfl⟩
          | false =>
            have HPN : Hid (Pieces ((prs xs).take (k + 1))) := Lib.hid (by
              rw [HTK.out]
              exact HP.out.snoc ⟨ts, HTM.out, HNS.out⟩ (by have h := HCS.out; simpa using h))
            have HW : Hid (pwant ((prs xs).take (k + 1)) = (pwant ((prs xs).take k) && mm x y)) := Lib.hid (by rw [HTK.out]; exact pwant_snoc _ _)
            have HM1 : Hid (((prs xs).take (k + 1)).map (·.1) = ((prs xs).take k).map (·.1) ++ [x]) := Lib.hid (by rw [HTK.out]; simp)
            have HM2 : Hid (((prs xs).take (k + 1)).map (·.2) = ((prs xs).take k).map (·.2) ++ [y]) := Lib.hid (by rw [HTK.out]; simp)
            have hlp : (((prs xs).take k).map (·.1)).length ≤ k := by rw [List.length_map]; exact List.length_take_le _ _
            have hln : (((prs xs).take k).map (·.2)).length ≤ k := by rw [List.length_map]; exact List.length_take_le _ _
            clear HP HTK HTM HNS HCS
            generalize ((prs xs).take k).map (·.1) = PS at *
            generalize ((prs xs).take k).map (·.2) = NS at *
            generalize pwant ((prs xs).take k) = WT at *
            go_wp2_with (at_builtin; refine wpList_append_lies _ rfl _ _ 40 rfl w.heap.size 9 i0 (.string ByteArray.empty) 1 16 Tryd.underlying40 hi hz0 hz1 hz2 rfl (by decide) _ _ _ rfl (HT5.out.1.own.alloc _) ⟨w5.heap.size, 0, none⟩ 1 1 [S x] rfl rfl ?c1 ?c2 (by decide) ?c3 ?c4 ?c5 (w5.heap.size + 1) (by simp) ?_)
            case c1 => exact one_cells _ _ _
            case c2 => exact all_one [x]
            case c3 => unfold maxLen; omega
            case c4 => omega
            case c5 => simp; omega
            · intro g6 cap6 w6 hown hgrow hat hlt6
              have HT6 := Lib.hid (Two.add HT5.out hown hgrow hat)
              have HB6 := Lib.hid ((HB5.out.alloc HB5.out.size (.cells #[S x] 9)).grown hgrow (by simp; omega) (fun j e => (HT5.out.1.blk j e).1))
              have HE6 := Lib.hid (HE.out.on HB6.out)
              have hs6 : w5.heap.size ≤ w6.heap.size := by have := hgrow.size; simp at this; omega
              clear hown hgrow hat hlt6 HT5 HB5 HE5 c12
              go_wp2_with (at_builtin; refine wpList_append_lies _ rfl _ _ 40 rfl w.heap.size 9 i0 (.string ByteArray.empty) 1 16 Tryd.underlying40 hi hz0 hz1 hz2 rfl (by decide) _ _ _ rfl (HT6.out.2.1.own.alloc _) ⟨w6.heap.size, 0, none⟩ 1 1 [S y] rfl rfl ?d1 ?d2 (by decide) ?d3 ?d4 ?d5 (w6.heap.size + 1) (by simp) ?_)
              case d1 => exact one_cells _ _ _
              case d2 => exact all_one [y]
              case d3 => unfold maxLen; omega
              case d4 => omega
              case d5 => simp; omega
              · intro g7 cap7 w7 hown hgrow hat hlt7
                have HT7 := Lib.hid (Two.add HT6.out.swap hown hgrow hat).swap
                have HB7 := Lib.hid ((HB6.out.alloc HB6.out.size (.cells #[S y] 9)).grown hgrow (by simp; omega) (fun j e => (HT6.out.2.1.blk j e).1))
                have HE7 := Lib.hid (HE.out.on HB7.out)
                clear hown hgrow hat hlt7 HT6 HB6 HE6
                cases WT with
                | false =>
                  go_wp2
                  go_roundw
                  case rel => exact ⟨k + 1, by omega, by go_num, by rw [HM1.out, HM2.out]; exact HT7.out, by rw [HW.out]; rfl, HPN.out, HB7.out⟩
                  case measure => simp [intOf]; omega
                | true =>
                  go_wp2_with fail
                  refine (yesB ae _ _ x y w7 HE7.out rfl rfl (by omega) (by omega)).mono ?_
                  rintro e w8 ⟨rfl, hb⟩
                  have HT8 := Lib.hid (HT7.out.below hb)
                  have HB8 := Lib.hid (HB7.out.trans (hb.mono HB7.out.size))
                  clear hb HT7 HB7 HE7
                  go_wp2
                  go_roundw
                  case rel => exact ⟨k + 1, by omega, by go_num, by rw [HM1.out, HM2.out]; exact HT8.out, by rw [HW.out]; rfl, HPN.out, HB8.out⟩
                  case measure => simp [intOf]; omega
    · have hz1' : ¬ (2 * (k : Int) + 1 < (xs.length : Int)) := by omega
      have hke : (prs xs).take k = prs xs := List.take_of_length_le (by omega)
      rw [hke] at HT HP
      rw [hke]
      have hl1 := J_len ((prs xs).map (·.1))
      have hl2 := J_len ((prs xs).map (·.2))
      rw [List.length_map] at hl1 hl2
      have q1 : (J ((prs xs).map (·.1))).length ≤ 140737488355328 := by omega
      have q2 : (J ((prs xs).map (·.2))).length ≤ 140737488355328 := by omega
      have q3 : ((prs xs).map (·.1)).length ≤ 140737488355328 := by rw [List.length_map]; omega
      have q4 : ((prs xs).map (·.2)).length ≤ 140737488355328 := by rw [List.length_map]; omega
      have q5 : 2 * (k : Int) + 1 ≤ 4000000 := by omega
      clear hl1 hl2 hpl hke hlt hk
      go_wp2_with fail
      refine (joinSlash w.heap.size _ ((prs xs).map (·.1)) wr HT.out.1 q3 q1).mono ?_
      rintro e w1 ⟨rfl, hb⟩
      have HT1 := Lib.hid (HT.out.below hb)
      have HB1 := Lib.hid (HB.out.trans (hb.mono HB.out.size))
      clear hb HT HB
      go_wp2_with fail
      refine (joinSlash w.heap.size _ ((prs xs).map (·.2)) w1 HT1.out.2.1 q4 q2).mono ?_
      rintro e w2 ⟨rfl, hb⟩
      have HB2 := Lib.hid (HB1.out.trans (hb.mono HB1.out.size))
      clear hb HT1 HB1
      go_wp2
      go_ret3
      exact ⟨HB2.out, .inl ⟨HP.out, rfl⟩⟩

theorem isElement_call (P : ByteArray) (s : Bs) (w : World) (hP : P.data.toList = s) :
    Calls Tryd.prog 15 #[.string P] w fun e w' => e = .returned (.bool (isEl s)) ∧ Below w.heap.size w w' := by
  rw [str_eq hP]
  clear hP
  go_enter Tryd.func15, Tryd.ntmps15
  by_cases h1 : s = []
  · subst h1
    go_wp2
    go_ret
    exact ⟨rfl, Below.refl _ _⟩
  · have b1 : s.isEmpty = false := by cases s with | nil => exact absurd rfl h1 | cons => rfl
    by_cases h2 : s = [46]
    · subst h2
      go_wp2
      go_ret
      exact ⟨rfl, Below.refl _ _⟩
    · have b2 : (s == [46]) = false := by rw [beq_eq_false_iff_ne]; exact h2
      by_cases h3 : s = [46, 46]
      · subst h3
        go_wp2
        go_ret
        exact ⟨rfl, Below.refl _ _⟩
      · have b3 : (s == [46, 46]) = false := by rw [beq_eq_false_iff_ne]; exact h3
        have HF : Hid (isEl s = !s.contains 47) := Lib.hid (by unfold isEl; rw [b2, b3, beq_eq_false_iff_ne.2 h1]; rfl)
        clear h1 h2 h3
        go_wp2_with fail
        refine (slashB _ s w rfl).mono ?_
        rintro e w1 ⟨rfl, hb⟩
        have HB := Lib.hid hb
        clear hb
        generalize s.contains 47 = C at *
        cases C
        all_goals
          go_wp2
          go_ret
          exact ⟨by rw [HF.out]; rfl, HB.out⟩

end Go.Proofs.YtcoaoheakeodoaaDoor

/-
  Plain laws, third part: terms that are changed one by one; texts between stars. Conditions: none beyond those of each theorem.
-/
import Derived.Test.YtcoaoheakeodoaaDoorLate
import Derived.Lib.IndexMore
namespace Go.Proofs.YtcoaoheakeodoaaDoor
open Go Go.Lib

/-! ### Ranges that admit the same -/
theorem same_exs {ts us : List Tm} (h : Same ts us) : Same (exs ts) (exs us) := by
  induction h with
  | nil => exact .nil
  | @cons t u ts us h _ ih =>
    rw [exs_cons, exs_cons]
    refine Same.append ?_ ih
    unfold ex
    by_cases k : t.kind = 3
    · rw [if_pos k, if_pos (h.1 ▸ k), h.2.1]
      exact Same.refl _
    · rw [if_neg k, if_neg (fun e => k (h.1.trans e))]
      exact .cons h .nil
theorem law_same {p : Bs} {ts us : List Tm} (hp : parse false p = some (exs ts)) (hg : ∀ t ∈ us, goodTm t) (hs : Same ts us) (n : Bs) : alikeF p (writeA us) n = true := by
  have h := parse_writeA us hg
  refine alikeF_true (by rw [bb_of hp, bb_of h]) (.inr ?_)
  rw [mm_of hp, mm_of h, gm_same (same_exs hs)]
theorem same_map (f : Tm → Tm) : ∀ (ts : List Tm), (∀ t ∈ ts, sameTm t (f t)) → Same ts (ts.map f)
  | [], _ => .nil
  | t :: ts, h => .cons (h t (by simp)) (same_map f ts fun x hx => h x (by simp [hx]))
theorem good_rs {t : Tm} (h : goodTm t) (f : List (Nat × Nat) → List (Nat × Nat)) (f0 : f [] = []) (f1 : t.kind = 2 → t.rs ≠ [] → f t.rs ≠ []) (f2 : (∀ r ∈ t.rs, sc r.1 ∧ sc r.2) → ∀ r ∈ f t.rs, sc r.1 ∧ sc r.2) : goodTm { t with rs := f t.rs } := by
  rcases h with ⟨_, e⟩ | ⟨_, e⟩ | ⟨k, e, h1, h2⟩ | ⟨k, e, hs⟩
  · subst e
    left
    exact ⟨rfl, by show ({ kind := 0, rs := f [] } : Tm) = _; rw [f0]⟩
  · subst e
    right; left
    exact ⟨rfl, by show ({ kind := 1, rs := f [] } : Tm) = _; rw [f0]⟩
  · right; right; left
    refine ⟨k, ?_, f1 k h1, f2 h2⟩
    obtain ⟨k', c, n, rs⟩ := t
    injection e with e1 e2 e3 e4
    simp only [e1, e2]
  · obtain ⟨k', c, n, rs⟩ := t
    injection e with e1 e2 e3 e4
    obtain rfl : k' = 3 := e1
    obtain rfl : n = false := e3
    obtain rfl : rs = [] := e4
    right; right; right
    exact ⟨rfl, by show ({ kind := 3, chr := c, rs := f [] } : Tm) = _; rw [f0], hs⟩

abbrev revT (t : Tm) : Tm := { t with rs := t.rs.reverse }
abbrev twiceT (t : Tm) : Tm := { t with rs := t.rs ++ t.rs }
/-- FnClassOrder. -/
theorem law_classOrder {p : Bs} {ts : List Tm} (hp : parse false p = some (exs ts)) (hg : ∀ t ∈ ts, goodTm t) (n : Bs) : alikeF p (writeA (ts.map revT)) n = true := by
  refine law_same hp ?_ (same_map revT ts fun t _ => ⟨rfl, rfl, fun _ => ⟨rfl, fun c => by simp [inR]⟩⟩) n
  intro t ht
  obtain ⟨u, hu, rfl⟩ := List.mem_map.1 ht
  exact good_rs (hg u hu) List.reverse rfl (fun _ h => by simpa using h) (fun h r hr => h r (List.mem_reverse.1 hr))
/-- FnClassTwice. -/
theorem law_classTwice {p : Bs} {ts : List Tm} (hp : parse false p = some (exs ts)) (hg : ∀ t ∈ ts, goodTm t) (n : Bs) : alikeF p (writeA (ts.map twiceT)) n = true := by
  refine law_same hp ?_ (same_map twiceT ts fun t _ => ⟨rfl, rfl, fun _ => ⟨rfl, fun c => by simp [inR]⟩⟩) n
  intro t ht
  obtain ⟨u, hu, rfl⟩ := List.mem_map.1 ht
  exact good_rs (hg u hu) (fun l => l ++ l) rfl (fun _ h => by simpa using h) (fun h r hr => h r (by simpa using hr))

/-- Is a range taken apart? -/
def shortR (g : Nat × Nat) : Bool := decide (g.1 ≤ g.2 ∧ g.2 ≤ g.1 + 20 ∧ ¬ (55296 ≤ g.2 ∧ g.1 ≤ 57343))
def spreadR (g : Nat × Nat) : List (Nat × Nat) := if shortR g then (List.range (g.2 - g.1 + 1)).map fun i => (g.1 + i, g.1 + i) else [g]
abbrev spreadT (t : Tm) : Tm := { t with rs := t.rs.flatMap spreadR }
theorem spreadR_in (g : Nat × Nat) (c : Nat) : inR (spreadR g) c = decide (g.1 ≤ c ∧ c ≤ g.2) := by
  unfold spreadR
  split
  · rename_i h
    have h' := of_decide_eq_true h
    rw [Bool.eq_iff_iff, decide_eq_true_iff]
    unfold inR
    rw [List.any_eq_true]
    constructor
    · rintro ⟨x, hx, hc⟩
      obtain ⟨i, hi, rfl⟩ := List.mem_map.1 hx
      have := of_decide_eq_true hc
      have := List.mem_range.1 hi
      simp only at *
      omega
    · rintro ⟨h1, h2⟩
      refine ⟨(c, c), List.mem_map.2 ⟨c - g.1, List.mem_range.2 (by omega), ?_⟩, by simp⟩
      rw [show g.1 + (c - g.1) = c by omega]
  · simp [inR]
theorem spread_in : ∀ (rs : List (Nat × Nat)) (c : Nat), inR (rs.flatMap spreadR) c = inR rs c
  | [], _ => rfl
  | g :: rs, c => by
    have e : inR (spreadR g ++ rs.flatMap spreadR) c = (inR (spreadR g) c || inR (rs.flatMap spreadR) c) := by simp [inR]
    rw [List.flatMap_cons, e, spreadR_in, spread_in rs c]
    simp [inR]
theorem spreadR_ne (g : Nat × Nat) : spreadR g ≠ [] := by
  unfold spreadR
  split <;> simp
theorem spreadR_sc (g : Nat × Nat) (h : sc g.1 ∧ sc g.2) : ∀ r ∈ spreadR g, sc r.1 ∧ sc r.2 := by
  intro r hr
  unfold spreadR at hr
  split at hr
  · rename_i hs
    have hs' := of_decide_eq_true hs
    obtain ⟨i, hi, rfl⟩ := List.mem_map.1 hr
    have := List.mem_range.1 hi
    unfold sc at h ⊢
    simp only
    omega
  · rw [List.mem_singleton.1 hr]
    exact h
theorem spreadR_len (g : Nat × Nat) : (spreadR g).length ≤ 21 := by
  unfold spreadR
  split
  · rename_i h
    have h' := of_decide_eq_true h
    simp
    omega
  · simp
theorem spread_len : ∀ (rs : List (Nat × Nat)), (rs.flatMap spreadR).length ≤ 21 * rs.length
  | [] => by simp
  | g :: rs => by
    have := spreadR_len g
    have := spread_len rs
    rw [List.flatMap_cons, List.length_append, List.length_cons]
    omega
/-- FnClassSpread. -/
theorem law_classSpread {p : Bs} {ts : List Tm} (hp : parse false p = some (exs ts)) (hg : ∀ t ∈ ts, goodTm t) (n : Bs) : alikeF p (writeA (ts.map spreadT)) n = true := by
  refine law_same hp ?_ (same_map spreadT ts fun t _ => ⟨rfl, rfl, fun _ => ⟨rfl, fun c => (spread_in t.rs c).symm⟩⟩) n
  intro t ht
  obtain ⟨u, hu, rfl⟩ := List.mem_map.1 ht
  refine good_rs (hg u hu) (fun l => l.flatMap spreadR) rfl (fun _ h => ?_) (fun h r hr => ?_)
  · intro e
    obtain ⟨g, hg⟩ := List.exists_mem_of_ne_nil _ h
    have := List.flatMap_eq_nil_iff.1 e g hg
    exact spreadR_ne g this
  · obtain ⟨g, hg, hr⟩ := List.mem_flatMap.1 hr
    exact spreadR_sc g (h g hg) r hr

/-! ### Terms that admit more, or less -/
theorem mtr_map (f : Tm → Tm) : ∀ (ts : List Tm) (s : List Nat), (∀ t ∈ ts, ∀ s, mtr [t] s = true → mtr [f t] s = true) → mtr ts s = true → mtr (ts.map f) s = true
  | [], _, _, h => h
  | t :: ts, s, hf, h => by
    obtain ⟨a, b, rfl, h1, h2⟩ := (mtr_append [t] ts s).1 h
    exact (mtr_append [f t] (ts.map f) _).2 ⟨a, b, rfl, hf t (by simp) a h1, mtr_map f ts b (fun x hx => hf x (by simp [hx])) h2⟩
theorem mtr_unmap (f : Tm → Tm) : ∀ (ts : List Tm) (s : List Nat), (∀ t ∈ ts, ∀ s, mtr [f t] s = true → mtr [t] s = true) → mtr (ts.map f) s = true → mtr ts s = true
  | [], _, _, h => h
  | t :: ts, s, hf, h => by
    obtain ⟨a, b, rfl, h1, h2⟩ := (mtr_append [f t] (ts.map f) s).1 h
    exact (mtr_append [t] ts _).2 ⟨a, b, rfl, hf t (by simp) a h1, mtr_unmap f ts b (fun x hx => hf x (by simp [hx])) h2⟩
def singleT (t : Tm) : Tm := if t.kind = 3 then Tm.cls false [(t.chr, t.chr)] else t
theorem singleT_good {t : Tm} (h : goodTm t) : goodTm (singleT t) := by
  unfold singleT
  split
  · rename_i k
    obtain ⟨_, hs⟩ := good_char h k
    exact good_cls (by simp) (by intro r hr; simp at hr; subst hr; exact ⟨hs, hs⟩)
  · exact h
theorem singleT_mtr (t : Tm) (s : List Nat) : mtr [singleT t] s = mtr [t] s := by
  unfold singleT
  split
  · rename_i k
    rw [Bool.eq_iff_iff, mtr_one (by show 2 ≠ 0; decide), mtr_one (by omega)]
    have : ∀ c, adm (Tm.cls false [(t.chr, t.chr)]) c = adm t c := by
      intro c
      have e : ∀ x y : Nat, decide (x ≤ y ∧ y ≤ x) = decide (y = x) := fun x y => by rw [Bool.eq_iff_iff, decide_eq_true_iff, decide_eq_true_iff]; omega
      simp [adm, k, inR]
      rw [Bool.eq_iff_iff]
      simp
      omega
    simp only [this]
  · rfl
/-- FnClassSingle. -/
theorem law_classSingle {p n : Bs} {ts : List Tm} (T : Tms p ts) (hd : decdB p n = true) (he : decdB (writeA (ts.map singleT)) n = true) : alikeF p (writeA (ts.map singleT)) n = true := by
  have hg : ∀ t ∈ ts.map singleT, goodTm t := fun t ht => by
    obtain ⟨u, hu, rfl⟩ := List.mem_map.1 ht
    exact singleT_good (T.all.2.1 u hu)
  have T2 := tms_write hg
  obtain ⟨v1, D1⟩ := decd_dcd T hd
  obtain ⟨_, D2⟩ := decd_dcd T2 he
  refine alikeF_true (by rw [T.all.2.2.2, T2.all.2.2.2]) (.inr ?_)
  rw [dcd_mm T v1 D1, dcd_mm T2 v1 D2, Bool.eq_iff_iff]
  exact ⟨mtr_map singleT ts _ (fun t _ s h => by rw [singleT_mtr]; exact h), mtr_unmap singleT ts _ (fun t _ s h => by rw [singleT_mtr] at h; exact h)⟩
def widerT (b : Bool) (t : Tm) : Tm := if t.kind = 2 ∧ t.neg = b then { t with rs := t.rs ++ [(97, 109)] } else t
theorem widerT_kind (b : Bool) (t : Tm) : (widerT b t).kind = t.kind := by
  unfold widerT
  split <;> rfl
theorem widerT_good (b : Bool) {t : Tm} (h : goodTm t) : goodTm (widerT b t) := by
  unfold widerT
  split
  · rename_i k
    obtain ⟨e, h1, h2⟩ := good_class h k.1
    have : ({ t with rs := t.rs ++ [(97, 109)] } : Tm) = Tm.cls t.neg (t.rs ++ [(97, 109)]) := by
      obtain ⟨k', c, n, rs⟩ := t
      injection e with e1 e2
      simp only [e1, e2]
    rw [this]
    refine good_cls (by simp) (fun r hr => ?_)
    rcases List.mem_append.1 hr with hr | hr
    · exact h2 r hr
    · rw [List.mem_singleton.1 hr]
      exact ⟨.inl (by decide), .inl (by decide)⟩
  · exact h
theorem widerT_len (b : Bool) (t : Tm) : (widerT b t).rs.length ≤ t.rs.length + 1 := by
  unfold widerT
  split
  · simp
  · omega
theorem widerT_more (t : Tm) (s : List Nat) (h : mtr [t] s = true) : mtr [widerT false t] s = true := by
  by_cases k : t.kind = 2 ∧ t.neg = false
  · obtain ⟨c, rfl, hc⟩ := (mtr_one (by omega) s).1 h
    refine (mtr_one (by rw [widerT_kind]; omega) _).2 ⟨c, rfl, ?_⟩
    unfold widerT
    rw [if_pos k]
    unfold adm at hc ⊢
    rw [if_neg (by omega), if_neg (by omega)] at hc
    rw [if_neg (by show ¬ t.kind = 1; omega), if_neg (by show ¬ t.kind = 3; omega)]
    simp only [k.2] at hc ⊢
    simp [inR] at hc ⊢
    exact .inl hc
  · unfold widerT
    rw [if_neg k]
    exact h
theorem widerT_less (t : Tm) (s : List Nat) (h : mtr [widerT true t] s = true) : mtr [t] s = true := by
  by_cases k : t.kind = 2 ∧ t.neg = true
  · obtain ⟨c, rfl, hc⟩ := (mtr_one (by rw [widerT_kind]; omega) s).1 h
    refine (mtr_one (by omega) _).2 ⟨c, rfl, ?_⟩
    unfold widerT at hc
    rw [if_pos k] at hc
    unfold adm at hc ⊢
    rw [if_neg (by show ¬ t.kind = 1; omega), if_neg (by show ¬ t.kind = 3; omega)] at hc
    rw [if_neg (by omega), if_neg (by omega)]
    simp only [k.2] at hc ⊢
    have e : inR (t.rs ++ [(97, 109)]) c = (inR t.rs c || inR [(97, 109)] c) := by simp [inR]
    rw [e] at hc
    cases hi : inR t.rs c with
    | true => rw [hi] at hc; cases hc
    | false => rfl
  · unfold widerT at h
    rw [if_neg k] at h
    exact h
theorem widerA_good (b : Bool) {ts : List Tm} (h : ∀ t ∈ ts, goodTm t) : ∀ t ∈ ts.map (widerT b), goodTm t := fun t ht => by
  obtain ⟨u, hu, rfl⟩ := List.mem_map.1 ht
  exact widerT_good b (h u hu)
/-- FnWiderClass. -/
theorem law_widerClass {p n : Bs} {ts : List Tm} (T : Tms p ts) (hs : soundB p n = true) (hm : mm p n = true) (he : decdB (writeA (ts.map (widerT false))) n = true) : mm (writeA (ts.map (widerT false))) n = true := by
  have T2 := tms_write (widerA_good false T.all.2.1)
  obtain ⟨v, D2⟩ := decd_dcd T2 he
  rw [dcd_mm T2 v D2]
  exact mtr_map _ ts _ (fun t _ s h => widerT_more t s h) (law_matchSound hs hm _ T.2)
theorem openStar_map (f : Tm → Tm) (hf : ∀ t, (f t).kind = t.kind) : ∀ (ts : List Tm), openStar (ts.map f) = openStar ts
  | [] => rfl
  | [_] => rfl
  | a :: b :: ts => by
    show ((decide ((f a).kind = 0) && (decide ((f b).kind = 1) || decide ((f b).kind = 2))) || openStar ((b :: ts).map f)) = ((decide (a.kind = 0) && (decide (b.kind = 1) || decide (b.kind = 2))) || openStar (b :: ts))
    rw [openStar_map f hf (b :: ts), hf, hf]
/-- FnNarrowerClass. -/
theorem law_narrower {p n : Bs} {ts : List Tm} (T : Tms p ts) (hd : decdB p n = true) (hm : mm (writeA (ts.map (widerT true))) n = true) : mm p n = true := by
  have hg := widerA_good true T.all.2.1
  have T2 := tms_write hg
  obtain ⟨v, D⟩ := decd_dcd T hd
  obtain ⟨s1, s2⟩ := valid_runes _ n (Nat.le_refl _) v
  have h1 := gm_sound (ts.map (widerT true)) (runes n) hg s1 (by rw [openStar_map _ (widerT_kind true)]; exact D.1)
  rw [s2] at h1
  rw [mm_of T2.all.1, h1] at hm
  rw [dcd_mm T v D]
  exact mtr_unmap _ ts _ (fun t _ s h => widerT_less t s h) (gmR_mtr _ _ hm)

/-! ### Classes before a pattern -/
/-- FnClassHead. -/
theorem law_classHead {t : Tm} (h : goodTm t) (k : t.kind = 2) {q : Bs} (hq : bb q = false) (b : UInt8) (n : Bs) : mm (writeW t ++ q) (b :: n) = (adm t (dec (b :: n)).1 && mm q ((b :: n).drop (dec (b :: n)).2)) := by
  have hp : parse false (writeW t) = some [t] := by
    have := parse_writeA [t] (by simpa using h)
    rw [writeA_one] at this
    rw [this]
    show some (ex t ++ []) = _
    rw [ex_other (by omega), List.append_nil]
  obtain ⟨_, e⟩ := mm_cons hp (by omega) hq (b :: n)
  rw [e]
  unfold step
  simp only
  have k1 : ¬ t.kind = 1 := by omega
  have k3 : ¬ t.kind = 3 := by omega
  rw [if_neg k1, if_pos k]
  unfold adm
  rw [if_neg k1, if_neg k3]
  cases inR t.rs (dec (b :: n)).1 <;> cases t.neg <;> simp

/-! ### Texts between stars, by bytes -/
theorem firstL_sound (e : Bs) (last : Bool) : ∀ (s t : Bs), first true (lits e) last s = some t → ∃ a, s = a ++ e ++ t ∧ 47 ∉ a ∧ (last = true → t = [])
  | [], t, h => by
    unfold first at h
    rw [steps_lits] at h
    by_cases hp : e <+: []
    · rw [if_pos hp] at h
      have he : e = [] := List.prefix_nil.1 hp
      subst he
      have ht : t = [] := by
        cases last <;> simp at h <;> exact h
      subst ht
      exact ⟨[], rfl, by simp, fun _ => rfl⟩
    · rw [if_neg hp] at h
      cases h
  | b :: s, t, h => by
    have rec_ : (if (true && b != 47) = true then first true (lits e) last s else none) = some t → ∃ a, b :: s = a ++ e ++ t ∧ 47 ∉ a ∧ (last = true → t = []) := by
      intro h
      by_cases hb : (true && b != 47) = true
      · rw [if_pos hb] at h
        obtain ⟨a, e1, e2, e3⟩ := firstL_sound e last s t h
        have h7 : b ≠ 47 := by simpa using hb
        refine ⟨b :: a, by rw [e1]; simp, ?_, e3⟩
        intro hm
        rcases List.mem_cons.1 hm with h | h
        · exact h7 h.symm
        · exact e2 h
      · rw [if_neg hb] at h
        cases h
    unfold first at h
    rw [steps_lits] at h
    by_cases hp : e <+: b :: s
    · rw [if_pos hp] at h
      obtain ⟨u, hu⟩ := hp
      rw [← hu, List.drop_left] at h
      by_cases hc : (last && !u.isEmpty) = true
      · have h2 : (if (last && !u.isEmpty) = true then (if (true && b != 47) = true then first true (lits e) last s else none) else some u) = some t := h
        rw [if_pos hc] at h2
        exact rec_ h2
      · have h2 : (if (last && !u.isEmpty) = true then (if (true && b != 47) = true then first true (lits e) last s else none) else some u) = some t := h
        rw [if_neg hc] at h2
        injection h2 with h2
        subst h2
        refine ⟨[], by rw [← hu]; rfl, by simp, ?_⟩
        intro hl
        subst hl
        cases u with
        | nil => rfl
        | cons => exact absurd rfl hc
    · rw [if_neg hp] at h
      exact rec_ h
theorem firstL_some (a z : Bs) : ∀ (x : Bs), 47 ∉ x → ∃ r, first true (lits a) false (x ++ a ++ z) = some r
  | [], _ => by
    refine ⟨z, first_hit true _ false _ _ ?_ rfl⟩
    rw [steps_lits, if_pos (by simp)]
    simp
  | b :: x, h => by
    have hb : b ≠ 47 := fun e => h (by simp [e])
    obtain ⟨r, hr⟩ := firstL_some a z x (fun e => h (by simp [e]))
    show ∃ r, first true (lits a) false (b :: (x ++ a ++ z)) = some r
    unfold first
    rw [hr]
    cases steps (lits a) (some (b :: (x ++ a ++ z))) with
    | none => exact ⟨r, by simp [hb]⟩
    | some t => exact ⟨t, by simp⟩
theorem tsplit_around {a : Bs} (ha : a ≠ []) (us : List Tm) : tsplit (Tm.star :: (lits a ++ Tm.star :: us)) = (true, lits a) :: tsplit (Tm.star :: us) := by
  have hl : lits a ≠ [] := by
    cases a with
    | nil => exact absurd rfl ha
    | cons => simp [lits]
  rw [tsplit_st _ rfl, tsplit_pre (lits a) (Tm.star :: us) hl (lits_kind a), tsplit_st us rfl]
  cases tsplit us with
  | nil => rfl
  | cons x cs =>
    obtain ⟨b, c⟩ := x
    cases b <;> rfl
theorem tsplit_star_ne (us : List Tm) : (tsplit (Tm.star :: us)).isEmpty = false := by
  rw [tsplit_st us rfl]
  cases tsplit us with
  | nil => rfl
  | cons x cs =>
    obtain ⟨b, c⟩ := x
    cases b <;> rfl
theorem gm_around {a : Bs} (ha : a ≠ []) (us : List Tm) (n : Bs) : gm (Tm.star :: (lits a ++ Tm.star :: us)) n = match first true (lits a) false n with
    | some t => gm (Tm.star :: us) t
    | none => false := by
  unfold gm
  rw [tsplit_around ha]
  conv => lhs; unfold gmc
  rw [tsplit_star_ne]
  cases first true (lits a) false n <;> rfl
theorem count_zero {x : Bs} (h : 47 ∉ x) : x.count 47 = 0 := List.count_eq_zero.2 h
/-- FnStarAround. -/
theorem law_starAround {a : Bs} (ha : validD a = true) (n : Bs) : bb ([42] ++ quoteB a ++ [42]) = false ∧ (mm ([42] ++ quoteB a ++ [42]) n = true ↔ ∃ x z, n = x ++ a ++ z ∧ 47 ∉ x ∧ 47 ∉ z) := by
  have hp : parse false ([42] ++ quoteB a ++ [42]) = some (Tm.star :: (lits a ++ [Tm.star])) := by
    have e : ([42] ++ quoteB a ++ [42] : Bs) = 42 :: (quoteB a ++ [42]) := rfl
    rw [e, parse_star, parse_quoteB ha]
    rfl
  refine ⟨bb_of hp, ?_⟩
  rw [mm_of hp]
  by_cases h0 : a = []
  · subst h0
    have e : gm (Tm.star :: (lits [] ++ [Tm.star])) n = gm [Tm.star] n := gm_two [] [] n
    rw [e, gm_star]
    constructor
    · intro h
      exact ⟨[], n, rfl, by simp, by simpa using h⟩
    · rintro ⟨x, z, rfl, h1, h2⟩
      simp [h1, h2]
  · rw [gm_around h0 []]
    constructor
    · intro h
      cases hf : first true (lits a) false n with
      | none => rw [hf] at h; cases h
      | some t =>
        rw [hf] at h
        obtain ⟨x, e1, e2, _⟩ := firstL_sound a false n t hf
        have h3 : gm [Tm.star] t = true := h
        rw [gm_star] at h3
        exact ⟨x, t, e1, e2, by simpa using h3⟩
    · rintro ⟨x, z, e, h1, h2⟩
      obtain ⟨r, hr⟩ := firstL_some a z x h1
      rw [← e] at hr
      rw [hr]
      obtain ⟨y, e1, e2, _⟩ := firstL_sound a false n r hr
      show gm [Tm.star] r = true
      rw [gm_star]
      have c1 : n.count 47 = a.count 47 := by rw [e, List.count_append, List.count_append, count_zero h1, count_zero h2]; omega
      have c2 : n.count 47 = a.count 47 + r.count 47 := by rw [e1, List.count_append, List.count_append, count_zero e2]; omega
      have c3 : r.count 47 = 0 := by omega
      have := List.count_eq_zero.1 c3
      simpa using this
theorem contains_iff (n a : Bs) : Lib.contains n a = true ↔ ∃ x z, n = x ++ a ++ z := by
  unfold Lib.contains
  rw [decide_eq_true_iff]
  constructor
  · intro h
    rcases index_spec n a with ⟨h1, _⟩ | ⟨i, h1, h2, h3, _⟩
    · omega
    · unfold occAt at h3
      obtain ⟨z, hz⟩ := List.isPrefixOf_iff_prefix.1 h3
      exact ⟨n.take i, z, by rw [List.append_assoc, hz, List.take_append_drop]⟩
  · rintro ⟨x, z, rfl⟩
    rcases index_spec (x ++ a ++ z) a with ⟨h1, h2⟩ | ⟨i, h1, _⟩
    · have := h2 x.length (by simp)
      unfold occAt at this
      rw [List.append_assoc, List.drop_left] at this
      rw [List.isPrefixOf_iff_prefix.2 (List.prefix_append a z)] at this
      cases this
    · omega
/-- FnStarContains. -/
theorem law_starContains {a : Bs} (ha : validD a = true) {n : Bs} (hn : n.contains 47 = false) : mm ([42] ++ quoteB a ++ [42]) n = Lib.contains n a := by
  rw [Bool.eq_iff_iff, (law_starAround ha n).2, contains_iff]
  have h47 : 47 ∉ n := by simpa using hn
  constructor
  · rintro ⟨x, z, e, _, _⟩
    exact ⟨x, z, e⟩
  · rintro ⟨x, z, rfl⟩
    exact ⟨x, z, rfl, fun h => h47 (by simp [h]), fun h => h47 (by simp [h])⟩
/-- What FnStarAround reckons. -/
def aroundAt (a n : Bs) (i : Nat) : Bool := decide ((n.drop i).take a.length = a) && !(n.take i ++ n.drop (i + a.length)).contains 47
def aroundUpto (a n : Bs) (k : Nat) : Bool := (List.range k).any fun i => aroundAt a n i
theorem aroundUpto_succ (a n : Bs) (k : Nat) : aroundUpto a n (k + 1) = (aroundUpto a n k || aroundAt a n k) := by
  unfold aroundUpto
  rw [List.range_succ, List.any_append]
  simp
theorem law_around {a : Bs} (ha : validD a = true) (n : Bs) (k : Nat) (hk : k = n.length + 1 - a.length) : mm ([42] ++ quoteB a ++ [42]) n = aroundUpto a n k := by
  rw [Bool.eq_iff_iff, (law_starAround ha n).2]
  unfold aroundUpto
  rw [List.any_eq_true]
  constructor
  · rintro ⟨x, z, rfl, h1, h2⟩
    refine ⟨x.length, List.mem_range.2 (by subst hk; simp; omega), ?_⟩
    unfold aroundAt
    rw [Bool.and_eq_true]
    refine ⟨decide_eq_true ?_, ?_⟩
    · rw [List.append_assoc, List.drop_left, List.take_left]
    · have e1 : (x ++ a ++ z).take x.length = x := by rw [List.append_assoc, List.take_left]
      have e2 : (x ++ a ++ z).drop (x.length + a.length) = z := by rw [← List.length_append, List.drop_left]
      rw [e1, e2]
      simp [h1, h2]
  · rintro ⟨i, _, h⟩
    unfold aroundAt at h
    rw [Bool.and_eq_true] at h
    have h1 := of_decide_eq_true h.1
    have h2 : 47 ∉ n.take i ++ n.drop (i + a.length) := by simpa using h.2
    refine ⟨n.take i, n.drop (i + a.length), ?_, fun e => h2 (List.mem_append_left _ e), fun e => h2 (List.mem_append_right _ e)⟩
    have e3 : n.drop i = a ++ n.drop (i + a.length) := by
      have := (List.take_append_drop a.length (n.drop i)).symm
      rw [h1, List.drop_drop] at this
      exact this
    rw [List.append_assoc, ← e3, List.take_append_drop]

/-! ### Texts in their order -/
def inOrd : List Bs → Bs → Bool
  | [], _ => true
  | s :: ps, n => if 0 ≤ Lib.index n s then inOrd ps (n.drop ((Lib.index n s).toNat + s.length)) else false
theorem first_index {a : Bs} (ha : a ≠ []) : ∀ (n : Bs), 47 ∉ n → first true (lits a) false n = if 0 ≤ Lib.index n a then some (n.drop ((Lib.index n a).toNat + a.length)) else none
  | [], _ => by
    have e : Lib.index [] a = -1 := by
      unfold Lib.index
      rw [if_neg (by simpa using ha)]
    rw [e, if_neg (by omega)]
    unfold first
    rw [steps_lits, if_neg (by simpa using ha)]
  | b :: n, h => by
    have hb : b ≠ 47 := fun e => h (by simp [e])
    have ih := first_index ha n (fun e => h (by simp [e]))
    by_cases hp : a <+: b :: n
    · have e : Lib.index (b :: n) a = 0 := by
        unfold Lib.index
        rw [if_pos (List.isPrefixOf_iff_prefix.2 hp)]
      rw [e, if_pos (by omega)]
      rw [first_hit true (lits a) false (b :: n) ((b :: n).drop a.length) (by rw [steps_lits, if_pos hp]) rfl]
      simp
    · have e : Lib.index (b :: n) a = if Lib.index n a == -1 then -1 else Lib.index n a + 1 := by
        conv => lhs; unfold Lib.index
        rw [if_neg (fun c => hp (List.isPrefixOf_iff_prefix.1 c))]
      have hf : first true (lits a) false (b :: n) = first true (lits a) false n := by
        conv => lhs; unfold first
        rw [steps_lits, if_neg hp]
        simp [hb]
      have hge := index_ge n a
      rw [hf, ih, e]
      by_cases h1 : Lib.index n a = -1
      · rw [h1]
        rfl
      · rw [if_pos (by omega)]
        have : (Lib.index n a == -1) = false := by simpa using h1
        rw [this]
        simp only [Bool.false_eq_true, if_false]
        rw [if_pos (by omega)]
        have : (Lib.index n a + 1).toNat + a.length = ((Lib.index n a).toNat + a.length) + 1 := by omega
        rw [this, List.drop_succ_cons]
def ordT (ps : List Bs) : List Tm := ps.flatMap fun s => lits s ++ [Tm.star]
theorem gm_ord : ∀ (ps : List Bs) (n : Bs), 47 ∉ n → gm (Tm.star :: ordT ps) n = inOrd ps n
  | [], n, h => by
    show gm [Tm.star] n = true
    rw [gm_star]
    simpa using h
  | s :: ps, n, h => by
    have e : (Tm.star :: ordT (s :: ps)) = Tm.star :: (lits s ++ Tm.star :: ordT ps) := by simp [ordT]
    rw [e]
    by_cases hs : s = []
    · subst hs
      have e2 : gm (Tm.star :: (lits [] ++ Tm.star :: ordT ps)) n = gm (Tm.star :: ordT ps) n := gm_two [] (ordT ps) n
      have e3 : Lib.index n [] = 0 := by
        cases n with
        | nil => rfl
        | cons => unfold Lib.index; exact if_pos rfl
      rw [e2, gm_ord ps n h]
      conv => rhs; unfold inOrd
      rw [e3, if_pos (by omega)]
      rfl
    · rw [gm_around hs, first_index hs n h]
      conv => rhs; unfold inOrd
      by_cases hi : 0 ≤ Lib.index n s
      · rw [if_pos hi, if_pos hi]
        exact gm_ord ps _ (fun e => h (List.mem_of_mem_drop e))
      · rw [if_neg hi, if_neg hi]
def ordP (ps : List Bs) : Bs := 42 :: ps.flatMap fun s => quoteB s ++ [42]
theorem ordP_snoc (ps : List Bs) (s : Bs) : ordP (ps ++ [s]) = ordP ps ++ quoteB s ++ [42] := by simp [ordP]
theorem parse_ord : ∀ (ps : List Bs), (∀ s ∈ ps, validD s = true) → parse false (ps.flatMap fun s => quoteB s ++ [42]) = some (ordT ps)
  | [], _ => rfl
  | s :: ps, h => by
    have e : ((s :: ps).flatMap fun s => quoteB s ++ [42]) = quoteB s ++ (42 :: ps.flatMap fun s => quoteB s ++ [42]) := by simp
    rw [e, parse_quoteB (h s (by simp)), parse_star, parse_ord ps fun x hx => h x (by simp [hx])]
    simp [ordT]
/-- FnStarOrder. -/
theorem law_starOrder {ps : List Bs} (hv : ∀ s ∈ ps, validD s = true) {n : Bs} (hn : 47 ∉ n) : mm (ordP ps) n = inOrd ps n := by
  have hp : parse false (ordP ps) = some (Tm.star :: ordT ps) := by
    unfold ordP
    rw [parse_star, parse_ord ps hv]
    rfl
  rw [mm_of hp, gm_ord ps n hn]

/-! ### Texts and stars by turns -/
def Fill (p n : Bs) : Prop := ∃ ts, Tms p ts ∧ (∀ t ∈ ts, t.kind = 0 ∨ t.kind = 3) ∧ validD n = true ∧ mtr ts (runes n) = true
theorem fill_nil : Fill [] [] := ⟨[], tms_parse rfl (by simp) rfl, by simp, rfl, rfl⟩
theorem Fill.text {p n : Bs} (h : Fill p n) {s : Bs} (hs : validD s = true) : Fill (p ++ quoteB s) (n ++ s) := by
  obtain ⟨ts, T, hk, hv, hm⟩ := h
  refine ⟨ts ++ (runes s).map Tm.chr', T.app (tms_quote hs), ?_, valid_app hv hs, ?_⟩
  · intro t ht
    rcases List.mem_append.1 ht with ht | ht
    · exact hk t ht
    · obtain ⟨c, _, rfl⟩ := List.mem_map.1 ht
      exact .inr rfl
  · rw [runes_app hv hs, mtr_append]
    exact ⟨_, _, rfl, hm, (mtr_chars _ _).2 rfl⟩
theorem Fill.star {p n : Bs} (h : Fill p n) {s : Bs} (hs : validD s = true) (h47 : s.contains 47 = false) : Fill (p ++ [42]) (n ++ s) := by
  obtain ⟨ts, T, hk, hv, hm⟩ := h
  refine ⟨ts ++ [Tm.star], T.app tms_star, ?_, valid_app hv hs, ?_⟩
  · intro t ht
    rcases List.mem_append.1 ht with ht | ht
    · exact hk t ht
    · rw [List.mem_singleton.1 ht]
      exact .inl rfl
  · rw [runes_app hv hs, mtr_append]
    refine ⟨_, _, rfl, hm, (mtr_star _).2 ?_⟩
    rw [contains_runes hs] at h47
    simpa using h47
theorem plain_open : ∀ (ts : List Tm), (∀ t ∈ ts, t.kind = 0 ∨ t.kind = 3) → openStar ts = false
  | [], _ => rfl
  | [_], _ => rfl
  | a :: b :: ts, h => by
    show ((decide (a.kind = 0) && (decide (b.kind = 1) || decide (b.kind = 2))) || openStar (b :: ts)) = false
    rw [plain_open (b :: ts) fun x hx => h x (by simp only [List.mem_cons] at hx ⊢; exact .inr hx)]
    have := h b (by simp)
    rw [decide_eq_false (by omega : ¬ b.kind = 1), decide_eq_false (by omega : ¬ b.kind = 2)]
    simp
theorem plain_class (ts : List Tm) (h : ∀ t ∈ ts, t.kind = 0 ∨ t.kind = 3) : slashClass ts = false := by
  unfold slashClass
  rw [List.any_eq_false]
  intro t ht
  have := h t ht
  simp
  omega
/-- FnStarFill. -/
theorem law_starFill {p n : Bs} (h : Fill p n) : mm p n = true := by
  obtain ⟨ts, T, hk, hv, hm⟩ := h
  rw [dcd_mm T hv ⟨.inr (plain_open ts hk), .inl (plain_class ts hk)⟩]
  exact hm

end Go.Proofs.YtcoaoheakeodoaaDoor

/-
  Plain laws of decided pairs, second part: terms that are written, texts around stars, classes alone. Conditions: none beyond those of each theorem.
-/
import Derived.Test.YtnjinkbhepimkaaDoorDecC
namespace Go.Proofs.YtnjinkbhepimkaaDoor
open Go Go.Lib

/-! ### What is written is valid -/
theorem valid_enc {c : Nat} (h : sc c) : validD (enc c) = true := by
  have := valid_encs [c] (by intro x hx; simp at hx; subst hx; exact h)
  rw [encs_cons, encs_nil, List.append_nil] at this
  exact this
theorem valid_byte (b : UInt8) (h : b.toNat < 128) : validD [b] = true := by
  have := valid_enc (c := b.toNat) (.inl (by omega))
  rw [enc_byte b h] at this
  exact this
theorem valid_byte_cons (b : UInt8) (h : b.toNat < 128) {l : Bs} (hl : validD l = true) : validD (b :: l) = true := valid_app (p := [b]) (valid_byte b h) hl
theorem valid_escW {c : Nat} (h : sc c) : validD (escW c) = true := by
  unfold escW
  split
  · exact valid_byte_cons 92 (by decide) (valid_enc h)
  · exact valid_enc h
theorem valid_body : ∀ (rs : List (Nat × Nat)), (∀ r ∈ rs, sc r.1 ∧ sc r.2) → validD (bodyW rs) = true
  | [], _ => rfl
  | r :: rs, h => by
    have h1 := h r (by simp)
    refine valid_app (p := rangeW r) ?_ (valid_body rs fun x hx => h x (by simp [hx]))
    refine valid_app (valid_escW h1.1) ?_
    split
    · rfl
    · exact valid_byte_cons 45 (by decide) (valid_escW h1.2)
theorem valid_writeW {t : Tm} (h : goodTm t) : validD (writeW t) = true := by
  unfold writeW
  rcases h with ⟨k, _⟩ | ⟨k, _⟩ | ⟨k, _, _, hr⟩ | ⟨k, _, hc⟩
  · rw [if_pos k]; exact valid_byte 42 (by decide)
  · rw [if_neg (by omega), if_pos k]; exact valid_byte 63 (by decide)
  · rw [if_neg (by omega), if_neg (by omega), if_neg (by omega)]
    have hb := valid_app (valid_body t.rs hr) (valid_byte 93 (by decide))
    split
    · exact valid_byte_cons 91 (by decide) (valid_byte_cons 94 (by decide) hb)
    · exact valid_byte_cons 91 (by decide) hb
  · rw [if_neg (by omega), if_neg (by omega), if_pos k]
    split
    · exact valid_byte_cons 92 (by decide) (valid_enc hc)
    · exact valid_enc hc
theorem valid_writeA : ∀ (ts : List Tm), (∀ t ∈ ts, goodTm t) → validD (writeA ts) = true
  | [], _ => rfl
  | t :: ts, h => valid_app (p := writeW t) (valid_writeW (h t (by simp))) (valid_writeA ts fun x hx => h x (by simp [hx]))
theorem tms_write {ts : List Tm} (h : ∀ t ∈ ts, goodTm t) : Tms (writeA ts) ts := tms_parse (valid_writeA ts h) h (parse_writeA ts h)
theorem writeA_one (t : Tm) : writeA [t] = writeW t := by simp [writeA]
theorem tms_one {t : Tm} (h : goodTm t) : Tms (writeW t) [t] := by
  have := tms_write (ts := [t]) (by intro u hu; simp at hu; subst hu; exact h)
  rw [writeA_one] at this
  exact this

/-! ### Wider patterns -/
theorem mtr_one {t : Tm} (h : t.kind ≠ 0) (s : List Nat) : mtr [t] s = true ↔ ∃ c, s = [c] ∧ adm t c = true := by
  rw [mtr_cons_one h]
  constructor
  · rintro ⟨c, s', rfl, h1, h2⟩
    rw [mtr_nil] at h2
    subst h2
    exact ⟨c, rfl, h1⟩
  · rintro ⟨c, rfl, h1⟩
    exact ⟨c, [], rfl, h1, rfl⟩
theorem split_at {ts : List Tm} {i : Nat} {t : Tm} (h : ts[i]? = some t) : ts = ts.take i ++ [t] ++ ts.drop (i + 1) := by
  obtain ⟨hi, e⟩ := List.getElem?_eq_some_iff.1 h
  rw [List.append_assoc]
  conv => lhs; rw [← List.take_append_drop i ts, List.drop_eq_getElem_cons hi, e]
  rfl
theorem wider {p n : Bs} {ts : List Tm} (T : Tms p ts) (hs : soundB p n = true) (hm : mm p n = true) {i : Nat} {t u : Tm} {b : Bs} (ht : ts[i]? = some t) (Tu : Tms b [u]) (hw : ∀ s, mtr [t] s = true → mtr [u] s = true)
    (hd : decdB (writeA (ts.take i) ++ b ++ writeA (ts.drop (i + 1))) n = true) : mm (writeA (ts.take i) ++ b ++ writeA (ts.drop (i + 1))) n = true := by
  have hg := T.all.2.1
  have T1 := tms_write (ts := ts.take i) fun x hx => hg x (List.mem_of_mem_take hx)
  have T2 := tms_write (ts := ts.drop (i + 1)) fun x hx => hg x (List.mem_of_mem_drop hx)
  have TT := (T1.app Tu).app T2
  obtain ⟨hv, D⟩ := decd_dcd TT hd
  have h1 := law_matchSound hs hm _ T.2
  rw [split_at ht] at h1
  obtain ⟨x, y, e, h2, h3⟩ := (mtr_append _ _ _).1 h1
  obtain ⟨x1, x2, rfl, h4, h5⟩ := (mtr_append _ _ _).1 h2
  rw [dcd_mm TT hv D, mtr_append]
  exact ⟨x1 ++ x2, y, e, (mtr_append _ _ _).2 ⟨x1, x2, rfl, h4, hw _ h5⟩, h3⟩
theorem no_slash_one {t : Tm} (h : t.kind ≠ 0) (ha : adm t 47 = false) {s : List Nat} (hm : mtr [t] s = true) : ∃ c, s = [c] ∧ c ≠ 47 := by
  obtain ⟨c, rfl, hc⟩ := (mtr_one h s).1 hm
  refine ⟨c, rfl, ?_⟩
  rintro rfl
  rw [ha] at hc
  cases hc
/-- FnWiderAny. -/
theorem law_widerAny {p n : Bs} {ts : List Tm} (T : Tms p ts) (hs : soundB p n = true) (hm : mm p n = true) {i : Nat} {t : Tm} (ht : ts[i]? = some t) (h0 : t.kind ≠ 0) (ha : adm t 47 = false)
    (hd : decdB (writeA (ts.take i) ++ [63] ++ writeA (ts.drop (i + 1))) n = true) : mm (writeA (ts.take i) ++ [63] ++ writeA (ts.drop (i + 1))) n = true :=
  wider T hs hm ht tms_any (fun s h => (mtr_any s).2 (no_slash_one h0 ha h)) hd
/-- FnWiderStar. -/
theorem law_widerStar {p n : Bs} {ts : List Tm} (T : Tms p ts) (hs : soundB p n = true) (hm : mm p n = true) {i : Nat} {t : Tm} (ht : ts[i]? = some t) (ha : t.kind = 0 ∨ adm t 47 = false)
    (hd : decdB (writeA (ts.take i) ++ [42] ++ writeA (ts.drop (i + 1))) n = true) : mm (writeA (ts.take i) ++ [42] ++ writeA (ts.drop (i + 1))) n = true :=
  wider T hs hm ht tms_star (fun s h => by
    rw [mtr_star]
    by_cases h0 : t.kind = 0
    · obtain ⟨pre, s', rfl, h1, h2⟩ := (mtr_cons_star h0 [] s).1 h
      rw [mtr_nil] at h2
      subst h2
      rw [List.append_nil]
      exact h1
    · obtain ⟨c, rfl, hc⟩ := no_slash_one h0 (ha.resolve_left h0) h
      simpa using hc.symm) hd

/-! ### Stars between texts -/
theorem valid_right_enc {c : Nat} (hc : sc c) {y : Bs} (h : validD (enc c ++ y) = true) : validD y = true := by
  cases he : enc c ++ y with
  | nil => exact absurd (List.append_eq_nil_iff.1 he).1 (enc_ne c)
  | cons b l =>
    have hd := dec_enc hc y
    rw [he] at h hd
    have := (valid_cons h).2.1
    rw [hd] at this
    simp only at this
    rw [← he, List.drop_left] at this
    exact this
theorem valid_right {y : Bs} : ∀ (cs : List Nat), scs cs → validD (encs cs ++ y) = true → validD y = true
  | [], _, h => h
  | c :: cs, hs, h => by
    rw [encs_cons, List.append_assoc] at h
    exact valid_right cs (scs_cons.1 hs).2 (valid_right_enc (scs_cons.1 hs).1 h)
theorem valid_after {a y : Bs} (ha : validD a = true) (h : validD (a ++ y) = true) : validD y = true := by
  obtain ⟨cs, hs, rfl⟩ := (valid_iff a).1 ha
  exact valid_right cs hs h
theorem valid_before {a n : Bs} (ha : validD a = true) (h : validD (n ++ a) = true) : validD n = true := by
  obtain ⟨s1, s2⟩ := valid_runes _ _ (Nat.le_refl _) h
  exact valid_left ha _ n s1 s2.symm
theorem openStar_chars : ∀ (cs : List Nat), openStar (cs.map Tm.chr') = false
  | [] => rfl
  | [_] => rfl
  | c :: d :: cs => by
    show ((decide ((Tm.chr' c).kind = 0) && _) || openStar ((d :: cs).map Tm.chr')) = false
    rw [openStar_chars (d :: cs)]
    rfl
theorem openStar_star_chars (cs : List Nat) : openStar (Tm.star :: cs.map Tm.chr') = false := by
  cases cs with
  | nil => rfl
  | cons d cs =>
    show ((_ && (decide ((Tm.chr' d).kind = 1) || decide ((Tm.chr' d).kind = 2))) || openStar ((d :: cs).map Tm.chr')) = false
    rw [openStar_chars]
    rfl
theorem openStar_chars_app : ∀ (cs : List Nat) (us : List Tm), openStar us = false → openStar (cs.map Tm.chr' ++ us) = false
  | [], _, h => h
  | [c], us, h => by
    cases us with
    | nil => rfl
    | cons u us =>
      show ((decide ((Tm.chr' c).kind = 0) && _) || openStar (u :: us)) = false
      rw [h]
      rfl
  | c :: d :: cs, us, h => by
    show ((decide ((Tm.chr' c).kind = 0) && _) || openStar ((d :: cs).map Tm.chr' ++ us)) = false
    rw [openStar_chars_app (d :: cs) us h]
    rfl
theorem slashClass_chars (cs : List Nat) : slashClass (cs.map Tm.chr') = false := by
  unfold slashClass
  rw [List.any_eq_false]
  intro t ht
  obtain ⟨c, _, rfl⟩ := List.mem_map.1 ht
  simp
/-- FnStarBetween. -/
theorem law_starBetween {a b n : Bs} (ha : validD a = true) (hb : validD b = true) (hn : validD n = true) : bb (quoteB a ++ [42] ++ quoteB b) = false ∧ (n.length < a.length + b.length → mm (quoteB a ++ [42] ++ quoteB b) n = false) ∧
    (a.length + b.length ≤ n.length → mm (quoteB a ++ [42] ++ quoteB b) n = (a.isPrefixOf n && (b.isSuffixOf n && !((n.drop a.length).take (n.length - b.length - a.length)).contains 47))) := by
  have T := ((tms_quote ha).app tms_star).app (tms_quote hb)
  have D : Dcd ((runes a).map Tm.chr' ++ [Tm.star] ++ (runes b).map Tm.chr') (runes n) := by
    refine ⟨.inr ?_, .inl ?_⟩
    · rw [List.append_assoc]
      exact openStar_chars_app _ _ (openStar_star_chars _)
    · rw [slashClass_app, slashClass_app, slashClass_chars, slashClass_chars]
      rfl
  have key : mm (quoteB a ++ [42] ++ quoteB b) n = true ↔ ∃ M, n = a ++ M ++ b ∧ 47 ∉ M := by
    rw [dcd_mm T hn D, mtr_append]
    constructor
    · rintro ⟨x, y, e, h1, h2⟩
      obtain ⟨x1, m, rfl, h3, h4⟩ := (mtr_append _ _ _).1 h1
      rw [mtr_chars] at h2 h3
      subst h2 h3
      obtain ⟨s1, s2⟩ := valid_runes _ n (Nat.le_refl _) hn
      have sm : scs m := fun c hc => s1 c (by rw [e]; simp [hc])
      refine ⟨encs m, ?_, ?_⟩
      · rw [← s2, e, encs_append, encs_append, (valid_runes _ a (Nat.le_refl _) ha).2, (valid_runes _ b (Nat.le_refl _) hb).2]
      · have := encs_slash m sm
        intro h
        rw [mtr_star] at h4
        rw [List.contains_iff_mem.2 h] at this
        exact h4 (List.contains_iff_mem.1 this.symm)
    · rintro ⟨M, e, h47⟩
      rw [e] at hn
      have v1 := valid_before hb hn
      have v2 := valid_after ha v1
      refine ⟨runes (a ++ M), runes b, by rw [e]; exact runes_app v1 hb, ?_, (mtr_chars _ _).2 rfl⟩
      rw [runes_app ha v2, mtr_append]
      refine ⟨_, _, rfl, (mtr_chars _ _).2 rfl, ?_⟩
      rw [mtr_star]
      intro h
      have := contains_runes v2
      rw [List.contains_iff_mem.2 h] at this
      exact h47 (List.contains_iff_mem.1 this)
  refine ⟨T.all.2.2.2, fun hl => ?_, fun hl => ?_⟩
  · rw [Bool.eq_false_iff]
    intro h
    obtain ⟨M, rfl, _⟩ := key.1 h
    simp only [List.length_append] at hl
    omega
  · rw [Bool.eq_iff_iff, key]
    simp only [Bool.and_eq_true, Bool.not_eq_true']
    constructor
    · rintro ⟨M, rfl, h⟩
      refine ⟨List.isPrefixOf_iff_prefix.2 ⟨M ++ b, by rw [List.append_assoc]⟩, List.isSuffixOf_iff_suffix.2 ⟨a ++ M, rfl⟩, ?_⟩
      have e1 : (a ++ M ++ b).length - b.length - a.length = M.length := by simp only [List.length_append]; omega
      rw [e1, List.append_assoc, List.drop_left, List.take_left]
      simpa using h
    · rintro ⟨h1, h2, h3⟩
      obtain ⟨y, rfl⟩ := List.isPrefixOf_iff_prefix.1 h1
      obtain ⟨x, hx⟩ := List.isSuffixOf_iff_suffix.1 h2
      rw [List.drop_left, List.length_append] at h3
      rw [List.length_append] at hl
      have hy : y = y.take (y.length - b.length) ++ b := by
        have e := congrArg (List.drop (a.length + (y.length - b.length))) hx
        have l1 : x.length = a.length + (y.length - b.length) := by have := congrArg List.length hx; simp only [List.length_append] at this; omega
        rw [← l1, List.drop_left, l1, ← List.drop_drop, List.drop_left] at e
        have h4 := List.take_append_drop (y.length - b.length) y
        rw [← e] at h4
        exact h4.symm
      refine ⟨y.take (y.length - b.length), ?_, ?_⟩
      · rw [List.append_assoc, ← hy]
      · have e1 : a.length + y.length - b.length - a.length = y.length - b.length := by omega
        rw [e1] at h3
        simpa using h3
theorem cutK_le {n : Bs} (hv : validD n = true) {i j : Nat} (hi : i ≤ (runes n).length) (hj : j ≤ (runes n).length) (h : cutK n i ≤ cutK n j) : i ≤ j := by
  rcases Nat.le_total i j with h' | h'
  · exact h'
  · obtain ⟨_, g2, _, _, _⟩ := cut_facts hv i
    obtain ⟨_, f2, _, _, _⟩ := cut_facts hv j
    have h2 : cutK n j ≤ cutK n i := by
      unfold cutK
      have e : encs ((runes n).take i) = encs ((runes n).take j) ++ encs (((runes n).take i).drop j) := by
        rw [← encs_append]
        congr 1
        conv => lhs; rw [← List.take_append_drop j ((runes n).take i)]
        rw [List.take_take, Nat.min_eq_left h']
      rw [e, List.length_append]
      omega
    have e : cutK n i = cutK n j := by omega
    rw [e, f2] at g2
    have := congrArg List.length g2
    rw [List.length_take, List.length_take] at this
    omega
theorem cut_mid {n : Bs} (hv : validD n = true) {i j : Nat} (h : i ≤ j) : cutK n i ≤ cutK n j ∧ (n.drop (cutK n i)).take (cutK n j - cutK n i) = encs (((runes n).take j).drop i) := by
  obtain ⟨s1, s2⟩ := valid_runes _ n (Nat.le_refl _) hv
  have hmid : encs ((runes n).take j) = encs ((runes n).take i) ++ encs (((runes n).take j).drop i) := by
    rw [← encs_append]
    congr 1
    conv => lhs; rw [← List.take_append_drop i ((runes n).take j)]
    rw [List.take_take, Nat.min_eq_left h]
  refine ⟨by unfold cutK; rw [hmid, List.length_append]; omega, ?_⟩
  obtain ⟨g1, g2, _, _, _⟩ := cut_facts hv j
  have t1 : n.take (cutK n j) = encs ((runes n).take j) := by
    have := (valid_runes _ _ (Nat.le_refl _) g1).2
    rw [g2] at this
    exact this.symm
  rw [← List.drop_take, t1, hmid]
  unfold cutK
  rw [List.drop_left]
def cutF (p q n : Bs) (i j : Nat) : Bool := decide (i ≤ j) && (!((n.drop i).take (max i j - i)).contains 47 && (mm p (n.take i) && mm q (n.drop j)))
/-- FnStarCuts. -/
theorem law_starCuts {p q n : Bs} (hp : wfB p = true) (hq : wfB q = true) (hd : decdB (p ++ [42] ++ q) n = true) : mm (p ++ [42] ++ q) n = (cutsL n).any fun i => (cutsL n).any fun j => cutF p q n i j := by
  obtain ⟨ts, tp⟩ := tms_of hp
  obtain ⟨us, tq⟩ := tms_of hq
  have T := (tp.app tms_star).app tq
  obtain ⟨hv, D⟩ := decd_dcd T hd
  obtain ⟨s1, s2⟩ := valid_runes _ n (Nat.le_refl _) hv
  have dl : ∀ i, Dcd ts (runes (n.take (cutK n i))) := fun i => (D.left (r := runes n) fun c hc => hc).left fun c hc => by rw [(cut_facts hv i).2.1] at hc; exact List.mem_of_mem_take hc
  have dr : ∀ i, Dcd us (runes (n.drop (cutK n i))) := fun i => D.right fun c hc => by rw [(cut_facts hv i).2.2.2.1] at hc; exact List.mem_of_mem_drop hc
  rw [dcd_mm T hv D, Bool.eq_iff_iff, mtr_append, List.any_eq_true]
  constructor
  · rintro ⟨x, b, e, h1, h2⟩
    obtain ⟨a, m, rfl, h3, h4⟩ := (mtr_append _ _ _).1 h1
    rw [mtr_star] at h4
    have hj : (a ++ m).length ≤ (runes n).length := by rw [e]; simp only [List.length_append]; omega
    have hi : a.length ≤ (a ++ m).length := by rw [List.length_append]; omega
    obtain ⟨f1, f2, _, _, _⟩ := cut_facts hv a.length
    obtain ⟨_, _, g3, g4, _⟩ := cut_facts hv (a ++ m).length
    obtain ⟨c1, c2⟩ := cut_mid hv hi
    refine ⟨cutK n a.length, List.mem_of_getElem? (cuts_get hv _ (by omega)), List.any_eq_true.2 ⟨cutK n (a ++ m).length, List.mem_of_getElem? (cuts_get hv _ hj), ?_⟩⟩
    unfold cutF
    rw [Nat.max_eq_right c1, c2, decide_eq_true c1, dcd_mm tp f1 (dl _), dcd_mm tq g3 (dr _), f2, g4]
    have e1 : (runes n).take (a ++ m).length = a ++ m := by rw [e, List.take_left]
    have e2 : (runes n).drop (a ++ m).length = b := by rw [e, List.drop_left]
    have e3 : (runes n).take a.length = a := by rw [e, List.append_assoc, List.take_left]
    rw [e1, e2, e3, List.drop_left, h3, h2]
    have sm : scs m := fun c hc => s1 c (by rw [e]; simp [hc])
    rw [encs_slash m sm]
    simpa using h4
  · rintro ⟨x, hx, h⟩
    obtain ⟨y, hy, h⟩ := List.any_eq_true.1 h
    obtain ⟨i, hi, rfl⟩ := cuts_mem hv hx
    obtain ⟨j, hj, rfl⟩ := cuts_mem hv hy
    unfold cutF at h
    rw [Bool.and_eq_true, decide_eq_true_eq] at h
    obtain ⟨h0, h⟩ := h
    have hij := cutK_le hv hi hj h0
    obtain ⟨c1, c2⟩ := cut_mid hv hij
    obtain ⟨f1, f2, _, _, _⟩ := cut_facts hv i
    obtain ⟨_, _, g3, g4, _⟩ := cut_facts hv j
    have sm : scs (((runes n).take j).drop i) := fun c hc => s1 c (List.mem_of_mem_take (List.mem_of_mem_drop hc))
    rw [Nat.max_eq_right c1, c2, dcd_mm tp f1 (dl _), dcd_mm tq g3 (dr _), f2, g4, encs_slash _ sm, Bool.and_eq_true, Bool.and_eq_true] at h
    obtain ⟨h1, h2, h3⟩ := h
    refine ⟨(runes n).take j, (runes n).drop j, (List.take_append_drop j _).symm, ?_, h3⟩
    rw [mtr_append]
    refine ⟨(runes n).take i, ((runes n).take j).drop i, ?_, h2, ?_⟩
    · have e1 := List.take_append_drop i ((runes n).take j)
      rw [List.take_take, Nat.min_eq_left hij] at e1
      exact e1.symm
    · rw [mtr_star]
      simpa using h1

/-! ### A class alone -/
theorem mm_one {t : Tm} (h : goodTm t) (h0 : t.kind ≠ 0) {c : Nat} (hc : sc c) : mm (writeW t) (enc c) = adm t c := by
  have hr : runes (enc c) = [c] := by
    have := runes_encs [c] (by intro x hx; simp at hx; subst hx; exact hc)
    rw [encs_cons, encs_nil, List.append_nil] at this
    exact this
  have D : Dcd [t] (runes (enc c)) := ⟨.inr rfl, .inr (.inr (by
    show (if t.kind = 0 ∧ false = false then 1 else 0) + 0 < 2
    split <;> omega))⟩
  rw [dcd_mm (tms_one h) (valid_enc hc) D, hr, Bool.eq_iff_iff, mtr_one h0]
  constructor
  · rintro ⟨d, e, h⟩
    injection e with e
    subst e
    exact h
  · intro h
    exact ⟨c, rfl, h⟩
theorem good_class {t : Tm} (h : goodTm t) (k : t.kind = 2) : t = Tm.cls t.neg t.rs ∧ t.rs ≠ [] ∧ ∀ r ∈ t.rs, sc r.1 ∧ sc r.2 := by
  rcases h with ⟨h, _⟩ | ⟨h, _⟩ | ⟨_, h1⟩ | ⟨h, _⟩
  · omega
  · omega
  · exact h1
  · omega
theorem good_cls {b : Bool} {rs : List (Nat × Nat)} (h0 : rs ≠ []) (h : ∀ r ∈ rs, sc r.1 ∧ sc r.2) : goodTm (Tm.cls b rs) := .inr (.inr (.inl ⟨rfl, rfl, h0, h⟩))
/-- FnClassNot. -/
theorem law_classNot {t : Tm} (h : goodTm t) (k : t.kind = 2) {c : Nat} (hc : sc c) : mm (writeW { t with neg := !t.neg }) (enc c) = !mm (writeW t) (enc c) := by
  obtain ⟨e, h1, h2⟩ := good_class h k
  have hg : goodTm { t with neg := !t.neg } := by rw [e]; exact good_cls h1 h2
  rw [mm_one h (by omega) hc, mm_one hg (by show t.kind ≠ 0; omega) hc]
  unfold adm
  simp [k]
theorem writeW_cls (rs : List (Nat × Nat)) : writeW (Tm.cls false rs) = 91 :: (bodyW rs ++ [93]) := rfl
/-- FnClassUnion. -/
theorem law_classUnion {rs us : List (Nat × Nat)} (h0 : rs ≠ []) (h : ∀ r ∈ rs, sc r.1 ∧ sc r.2) (k0 : us ≠ []) (k : ∀ r ∈ us, sc r.1 ∧ sc r.2) {c : Nat} (hc : sc c) :
    mm (91 :: (bodyW rs ++ bodyW us ++ [93])) (enc c) = (mm (91 :: (bodyW rs ++ [93])) (enc c) || mm (91 :: (bodyW us ++ [93])) (enc c)) := by
  have e : (91 :: (bodyW rs ++ bodyW us ++ [93]) : Bs) = writeW (Tm.cls false (rs ++ us)) := by
    rw [writeW_cls]
    unfold bodyW
    rw [List.flatMap_append]
  rw [e, ← writeW_cls, ← writeW_cls, mm_one (good_cls (by simp [h0]) (fun r hr => by rcases List.mem_append.1 hr with hr | hr; exact h r hr; exact k r hr)) (by show 2 ≠ 0; decide) hc, mm_one (good_cls h0 h) (by show 2 ≠ 0; decide) hc, mm_one (good_cls k0 k) (by show 2 ≠ 0; decide) hc]
  simp [adm, inR]

/-! ### Turned around -/
theorem mtr_rev_one (t : Tm) (s : List Nat) (h : mtr [t] s = true) : mtr [t] s.reverse = true := by
  by_cases h0 : t.kind = 0
  · obtain ⟨pre, s', rfl, h1, h2⟩ := (mtr_cons_star h0 [] s).1 h
    rw [mtr_nil] at h2
    subst h2
    rw [List.append_nil, mtr_cons_star h0]
    exact ⟨pre.reverse, [], (List.append_nil _).symm, by simpa using h1, rfl⟩
  · obtain ⟨c, rfl, hc⟩ := (mtr_one h0 s).1 h
    exact h
theorem mtr_rev : ∀ (ts : List Tm) (s : List Nat), mtr ts s = true → mtr ts.reverse s.reverse = true
  | [], s, h => by
    rw [mtr_nil] at h
    subst h
    rfl
  | t :: ts, s, h => by
    obtain ⟨a, b, rfl, h1, h2⟩ := (mtr_append [t] ts s).1 h
    rw [List.reverse_cons, List.reverse_append, mtr_append]
    exact ⟨_, _, rfl, mtr_rev ts b h2, mtr_rev_one t a h1⟩
/-- FnTurned. -/
theorem law_turned {p n q m : Bs} {ts : List Tm} (T : Tms p ts) (hd : decdB p n = true) (hq : q = writeA ts.reverse) (hm : m = encs (runes n).reverse) (he : decdB q m = true) : mm p n = mm q m := by
  subst hq hm
  have hg : ∀ t ∈ ts.reverse, goodTm t := fun t ht => T.all.2.1 t (List.mem_reverse.1 ht)
  have T2 := tms_write hg
  obtain ⟨v1, D1⟩ := decd_dcd T hd
  obtain ⟨v2, D2⟩ := decd_dcd T2 he
  obtain ⟨s1, _⟩ := valid_runes _ n (Nat.le_refl _) v1
  have hr : runes (encs (runes n).reverse) = (runes n).reverse := runes_encs _ fun c hc => s1 c (List.mem_reverse.1 hc)
  rw [dcd_mm T v1 D1, dcd_mm T2 v2 D2, hr, Bool.eq_iff_iff]
  constructor
  · exact mtr_rev ts _
  · intro h
    have := mtr_rev _ _ h
    rw [List.reverse_reverse, List.reverse_reverse] at this
    exact this

/-! ### Parts of terms that are read -/
theorem TmsRd.take {lo : Nat} {w : World} {a : Option Addr} {cap : Nat} {ts : List Tm} (h : TmsRd lo w (.slice a ts.length cap) ts) (k : Nat) (hk : k ≤ ts.length) : TmsRd lo w (.slice a k cap) (ts.take k) := by
  obtain ⟨a', cap', e, h1, h2⟩ := h
  injection e with e1 _ e3
  subst e1 e3
  have hl : (ts.take k).length = k := by rw [List.length_take]; omega
  refine ⟨a, cap, by rw [hl], by omega, fun j t hj => h2 j t ?_⟩
  rw [List.getElem?_take] at hj
  split at hj
  · exact hj
  · cases hj
theorem TmsRd.drop {lo : Nat} {w : World} {g o : Nat} {cap : Nat} {ts : List Tm} (h : TmsRd lo w (.slice (some ⟨g, o, none⟩) ts.length cap) ts) (k : Nat) (cap2 : Nat) (hc : ts.length - k ≤ cap2) : TmsRd lo w (.slice (some ⟨g, o + k * 4, none⟩) (ts.length - k) cap2) (ts.drop k) := by
  obtain ⟨a', cap', e, h1, h2⟩ := h
  injection e with e1 _ e3
  subst e1 e3
  have hl : (ts.drop k).length = ts.length - k := by rw [List.length_drop]
  refine ⟨some ⟨g, o + k * 4, none⟩, cap2, by rw [hl], by omega, fun j t hj => ?_⟩
  rw [List.getElem?_drop] at hj
  obtain ⟨g', o', rv, e, h3, h4, c1, c2, c3, c4, hr⟩ := h2 (k + j) t hj
  injection e with e
  injection e with e1 e2
  subst e1 e2
  refine ⟨g, o + k * 4, rv, rfl, h3, h4, ?_, ?_, ?_, ?_, hr⟩
  all_goals
    have e : o + k * 4 + j * 4 = o + (k + j) * 4 := by omega
    rw [e]
    assumption
end Go.Proofs.YtnjinkbhepimkaaDoor

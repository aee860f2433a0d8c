/-
  The reference's Base, elements, shorter, Clean, Dir, Join: contracts. Conditions: none beyond those of each theorem.
-/
import Derived.Test.YtlekeaganaliiaaDoorSpecS
import Derived.Test.YtlekeaganaliiaaDoorStrD
import Derived.Test.YtlekeaganaliiaaDoorLawP
import Derived.Test.YtlekeaganaliiaaDoorJoinC
import Derived.Test.YtlekeaganaliiaaDoorHand
import Derived.Test.YtlekeaganaliiaaDoorStrC
import Derived.Test.YtlekeaganaliiaaDoorTermG
import Derived.Deep.AppendLies
import Derived.Deep.RegionLaw
namespace Go.Proofs.YtlekeaganaliiaaDoor
open Go.ChangeShapes Go.WideShapes Go.ChangeAt Go.RowKit

theorem ret_S {s : ByteArray} {l : List UInt8} (h : s = ⟨l.toArray⟩) : Ending.returned (.string s) = .returned (S l) := by rw [h]

theorem specBase (l : List UInt8) (w : World) (h : l.length ≤ 9223372036854775807) :
    Calls Tryd.prog 28 #[S l] w fun e w' => e = .returned (S (Lib.Pa.base l)) ∧ Below w.heap.size w w' := by
  by_cases hl : l = []
  · subst hl
    go_enter Tryd.func28, Tryd.ntmps28
    go_wp2
    go_ret
    exact ⟨rfl, Below.refl _ _⟩
  · have hE : l.isEmpty = false := by cases l with | nil => exact absurd rfl hl | cons => rfl
    have HR := Lib.hid (ref_base l hl)
    have htl : (Lib.trimRightS l [47]).length ≤ l.length := by
      unfold Lib.trimRightS
      rw [List.length_reverse]
      have := (List.dropWhile_sublist (fun x : UInt8 => ([47] : List UInt8).contains x) (l := l.reverse)).length_le
      rwa [List.length_reverse] at this
    clear hl
    go_enter Tryd.func28, Tryd.ntmps28
    go_wp2_with fail
    refine (trimRightC _ l _ rfl h).mono ?_
    rintro e w1 ⟨rfl, hb⟩
    have HB1 := Lib.hid hb
    clear hb
    generalize Lib.trimRightS l [47] = T at *
    by_cases hT : T = []
    · subst hT
      have HF : Hid (Lib.Pa.base l = [47]) := Lib.hid (by rw [HR.out, if_pos rfl])
      clear HR
      go_wp2
      go_ret
      exact ⟨by rw [HF.out]; rfl, HB1.out⟩
    · have hTE : T.isEmpty = false := by cases T with | nil => exact absurd rfl hT | cons => rfl
      have HF : Hid (Lib.Pa.base l = (Lib.Pa.split T).2) := Lib.hid (by rw [HR.out, if_neg hT])
      have e2 : Hid ((⟨T.toArray⟩ : ByteArray).extract (bslash T) T.length = ⟨(Lib.Pa.split T).2.toArray⟩) := Lib.Pa.extract_from ⟨T.toArray⟩ _
      have hle : bslash T ≤ T.length := bslash_le _
      have HCB : Hid (∀ W, Calls Tryd.prog 72 #[S T] W fun e w' => e = .returned (.int .i64 (bslash T)) ∧ W = w') := Lib.hid (fun W => behindSlash_any ⟨T.toArray⟩ W (by show T.length ≤ _; omega))
      clear HR hT
      generalize bslash T = k at *
      go_wp2_with fail
      refine (HCB.out _).mono ?_
      rintro e w2 ⟨rfl, rfl⟩
      go_wp2
      go_ret
      exact ⟨by rw [HF.out]; exact ret_S e2.out, HB1.out⟩

def FilRel (p : List UInt8 → Bool) (E : PL) (B0 : Nat) (W : World) (o i : Value) (wr : World) : Prop :=
  ∃ k : Nat, i = .int .i64 (k : Nat) ∧ k ≤ E.length ∧ Lists B0 wr o ((E.take k).filter p) ∧ (∀ j, o.ownBlock = some j → j = B0 ∨ W.heap.size ≤ j) ∧ W.grownBy wr (some B0)

theorem take_filter (p : List UInt8 → Bool) {E : PL} {k : Nat} {x : List UInt8} (h : E[k]? = some x) : (E.take (k + 1)).filter p = (E.take k).filter p ++ (if p x then [x] else []) := by
  rw [List.take_add_one, h]
  show (E.take k ++ [x]).filter p = _
  rw [List.filter_append]
  by_cases hp : p x = true
  · rw [if_pos hp, List.filter_cons_of_pos hp]; rfl
  · rw [if_neg hp, List.filter_cons_of_neg hp]; rfl

theorem elems_lens (l : List UInt8) : Lib.Pa.lens (elems l) + (elems l).length ≤ l.length + 1 := by
  have h1 : ∀ l : List UInt8, Lib.Pa.lens (Lib.Pa.els l) + (Lib.Pa.els l).length = l.length + 1 := by
    intro l
    induction l with
    | nil => rfl
    | cons c t ih =>
      unfold Lib.Pa.els
      split
      · simp [Lib.Pa.lens] at ih ⊢; omega
      · cases he : Lib.Pa.els t with
        | nil => rw [he] at ih; simp [Lib.Pa.lens] at ih ⊢
        | cons e r => rw [he] at ih; simp [Lib.Pa.lens] at ih ⊢; omega
  have h2 := lens_filter okE (Lib.Pa.els l)
  have h3 := List.length_filter_le okE (Lib.Pa.els l)
  have h4 := h1 l
  unfold elems
  omega

set_option maxHeartbeats 1000000 in
theorem elements_call (l : List UInt8) (w : World) (hM : MaxAt w) (h : l.length ≤ 1000000000) :
    Calls Tryd.prog 74 #[S l] w fun e w' => ∃ v, e = .returned v ∧ Lists w.heap.size w' v (elems l) ∧ Below w.heap.size w w' := by
  obtain ⟨i0, hi, hz0, hz1, hz2⟩ := info_parts infoStr
  obtain ⟨m, hm⟩ := hM.on ((Below.refl _ w).alloc (Nat.le_refl _) (.cells #[] 9))
  have hsp := Tryd.strings_Split ⟨l.toArray⟩ ⟨#[47]⟩ m (w.alloc (.cells #[] 9)) (by show l.length < _; omega) hm (by decide)
  have hdata := Lib.splitB_data ⟨#[47]⟩ 0 (Lib.countB ⟨l.toArray⟩ ⟨#[47]⟩) ⟨l.toArray⟩
  have hE : (Lib.splitB ⟨#[47]⟩ 0 (Lib.countB ⟨l.toArray⟩ ⟨#[47]⟩) ⟨l.toArray⟩).map (·.data.toList) = Lib.Pa.els l := by
    rw [hdata, ← split_els l]
    rfl
  have hlen : (Lib.Pa.els l).length = Lib.countB ⟨l.toArray⟩ ⟨#[47]⟩ + 1 := by
    rw [← hE, List.length_map]
    exact Lib.splitB_all _ (by decide) 0 _ _ rfl
  have hval : (Lib.splitB ⟨#[47]⟩ 0 (Lib.countB ⟨l.toArray⟩ ⟨#[47]⟩) ⟨l.toArray⟩).map Value.string = (Lib.Pa.els l).map fun l => S l := by
    rw [← hE, List.map_map]
    rfl
  have hsz1 : (w.alloc (.cells #[] 9)).heap.size = w.heap.size + 1 := by simp
  rw [hval, ← hlen, hsz1] at hsp
  have hel := elems_lens l
  have hels : (Lib.Pa.els l).length ≤ l.length + 1 := by
    rw [hlen]
    have := Lib.countB_le ⟨#[47]⟩ (by decide) l.length ⟨l.toArray⟩ (Nat.le_refl _)
    have e : (⟨l.toArray⟩ : ByteArray).size = l.length := rfl
    omega
  have HSP := Lib.hid hsp
  have HFE : Hid (elems l = (Lib.Pa.els l).filter okE) := Lib.hid rfl
  clear hsp hdata hE hlen hval hm
  generalize Lib.Pa.els l = E at *
  obtain ⟨W2, hW2⟩ : ∃ W2, W2 = (w.alloc (.cells #[] 9)).alloc (.cells (E.map fun l => S l).toArray 9) := ⟨_, rfl⟩
  rw [← hW2] at HSP
  have hs2 : W2.heap.size = w.heap.size + 2 := by rw [hW2]; simp
  have HB2 : Hid (Below w.heap.size w W2) := Lib.hid (by rw [hW2]; exact ((Below.refl _ w).alloc (Nat.le_refl _) _).alloc (by simp) _)
  have HC2 : Hid (∀ (j : Nat) x, E[j]? = some x → W2.cell? ⟨w.heap.size + 1, j, none⟩ = some (S x)) := Lib.hid (fun j x hj => by
    have := new_cells (w.alloc (.cells #[] 9)) 9 E j x hj
    rw [hsz1, Nat.zero_add] at this
    rw [hW2]
    exact this)
  have HO2 : Hid (Lists w.heap.size W2 (.slice (some ⟨w.heap.size, 0, none⟩) 0 0) []) := Lib.hid (by
    rw [hW2]
    exact (Lists.made w w.heap.size w.heap.size rfl (Nat.le_refl _) [] (by simp)).kept (World.grownBy_alloc _ _ none) (fun _ _ e => by cases e))
  clear hW2 hsz1
  go_enter Tryd.func74, Tryd.ntmps74
  go_wp2_with fail
  refine HSP.out.mono ?_
  rintro e w' ⟨rfl, rfl⟩
  clear HSP
  go_wp2
  go_loopw [3, 10] (fun o i wr => FilRel okE E w.heap.size w' o i wr) (fun _ i _ => E.length - (intOf i).toNat)
  case atStart => exact ⟨0, rfl, Nat.zero_le _, HO2.out, fun j e => .inl (Option.some.inj (show some w.heap.size = some j from e)).symm, World.grownBy.refl _ _⟩
  case round =>
    clear HO2
    obtain ⟨k, rfl, hk, hO, hW, hG⟩ := hrel
    have HO := Lib.hid hO
    have HW := Lib.hid hW
    have HG := Lib.hid hG
    have hgs := hG.size
    clear hO hW hG
    by_cases hkl : k < E.length
    · obtain ⟨x, hx⟩ : ∃ x, E[k]? = some x := ⟨_, List.getElem?_eq_getElem hkl⟩
      have hcx : wr.cell? ⟨w.heap.size + 1, k, none⟩ = some (S x) := HG.out.cell (HC2.out k x hx) (by simp)
      have HT := Lib.hid (take_filter okE hx)
      clear hx
      by_cases hok : okE x = true
      · obtain ⟨h1, h2⟩ := (okE_iff x).1 hok
        have hx1 : x.isEmpty = false := by cases x with | nil => exact absurd rfl h1 | cons => rfl
        have hx2 : (x == [46]) = false := by rw [beq_eq_false_iff_ne]; exact h2
        have HT2 : Hid ((E.take (k + 1)).filter okE = (E.take k).filter okE ++ [x]) := Lib.hid (by rw [HT.out, if_pos hok])
        have hlf := List.length_filter_le okE (E.take k)
        have hlt := List.length_take_le k E
        clear HT hok h1 h2
        obtain ⟨xs, hxs⟩ : ∃ xs, (E.take k).filter okE = xs := ⟨_, rfl⟩
        rw [hxs] at HO HT2 hlf
        clear hxs
        go_wp2_with (at_builtin; refine wpList_append_lies _ rfl _ _ 36 rfl w.heap.size 9 i0 (.string ByteArray.empty) 1 16 Tryd.underlying36 hi hz0 hz1 hz2 rfl (by decide) _ _ _ rfl (HO.out.own.alloc _) ⟨wr.heap.size, 0, none⟩ 1 1 [S x] rfl rfl ?c1 ?c2 (by decide) ?c3 ?c4 ?c5 _ rfl ?_)
        case c1 => exact one_cells _ _ _
        case c2 => exact all_one [x]
        case c3 => unfold maxLen; omega
        case c4 => omega
        case c5 => simp; omega
        · intro g cap w4 hown hgrow hat hlt4
          have HO4 : Hid (Lists w.heap.size w4 (.slice (some ⟨g, 0, none⟩) (xs.length + 1) cap) (xs ++ [x])) := Lib.hid (Lists.of hown (by simp) (by simp) (by simp))
          have HW4 : Hid (∀ j, (Value.slice (some ⟨g, 0, none⟩) (xs.length + 1) cap).ownBlock = some j → j = w.heap.size ∨ w'.heap.size ≤ j) := Lib.hid (fun j e => by
            have e' : g = j := Option.some.inj e
            subst e'
            rcases hat with h | h
            · exact HW.out g h
            · right; first | omega | (simp at h ⊢; omega))
          have HG4 : Hid (w'.grownBy w4 (some w.heap.size)) := Lib.hid (grown_row (grown_row HG.out (World.grownBy_alloc wr (.cells #[S x] 9) none) (fun j e => by cases e)) hgrow HW.out)
          clear hown hgrow hat hlt4 HO HW HG hcx
          go_wp2
          go_roundw
          case rel => exact ⟨k + 1, by go_num, by omega, by rw [HT2.out]; exact HO4.out, HW4.out, HG4.out⟩
          case measure => simp [intOf]; omega
      · have HT2 : Hid ((E.take (k + 1)).filter okE = (E.take k).filter okE) := Lib.hid (by rw [HT.out, if_neg hok, List.append_nil])
        have hxx : x = [] ∨ x = [46] := by
          rw [okE_iff] at hok
          by_cases h1 : x = []
          · exact .inl h1
          · exact .inr (Classical.byContradiction fun h2 => hok ⟨h1, h2⟩)
        clear hok HT
        rcases hxx with rfl | rfl
        all_goals
          go_wp2
          go_roundw
          case rel => exact ⟨k + 1, by go_num, by omega, by rw [HT2.out]; exact HO.out, HW.out, HG.out⟩
          case measure => simp [intOf]; omega
    · obtain rfl : k = E.length := by omega
      have HF : Hid (Lists w.heap.size wr u3 (elems l)) := Lib.hid (by have := HO.out; rw [List.take_length] at this; rw [HFE.out]; exact this)
      have HBF : Hid (Below w.heap.size w wr) := Lib.hid (HB2.out.grown HG.out (by omega) (fun j e => by injection e with e; omega))
      clear HO HW HG
      go_wp2
      go_ret
      exact ⟨_, rfl, HF.out, HBF.out⟩

/-- A row of strings that is read. -/
def StrRow (w : World) (v : Value) (xs : PL) : Prop := ∃ g o cap, v = .slice (some ⟨g, o, none⟩) xs.length cap ∧ xs.length ≤ cap ∧ cap ≤ maxLen ∧ g < w.heap.size ∧ ∀ (j : Nat) x, xs[j]? = some x → w.cell? ⟨g, o + j, none⟩ = some (S x)
theorem StrRow.kept {w w' : World} {v : Value} {xs : PL} (h : StrRow w v xs) (hb : Below w.heap.size w w') : StrRow w' v xs := by
  obtain ⟨g, o, cap, e, h1, h2, h3, h4⟩ := h
  exact ⟨g, o, cap, e, h1, h2, Nat.lt_of_lt_of_le h3 hb.size, fun j x hj => (hb.cell (p := ⟨g, o + j, none⟩) h3).trans (h4 j x hj)⟩
theorem Lists.row {B : Nat} {w : World} {v : Value} {xs : PL} (h : Lists B w v xs) : StrRow w v xs := by
  obtain ⟨g, cap, e, _, h2, h3, h4, h5⟩ := h.shape
  exact ⟨g, 0, cap, e, h3, h4, h2, fun j x hj => by rw [Nat.zero_add]; exact h5 j x hj⟩

theorem two_lens {L : PL} {i : Nat} (h : i + 1 < L.length) : Lib.Pa.lens (L.take i ++ L.drop (i + 2)) + (L.take i ++ L.drop (i + 2)).length ≤ Lib.Pa.lens L + L.length ∧ (L.take i ++ L.drop (i + 2)).length < L.length := by
  have e : L = L.take i ++ (L[i]'(by omega) :: L[i + 1] :: L.drop (i + 2)) := by
    conv => lhs; rw [← List.take_append_drop i L]
    rw [List.drop_eq_getElem_cons (by omega), List.drop_eq_getElem_cons (by omega)]
  have h1 := congrArg Lib.Pa.lens e
  have h2 := congrArg List.length e
  unfold Lib.Pa.lens at *
  simp only [List.map_append, List.sum_append, List.map_cons, List.sum_cons, List.length_append, List.length_cons] at *
  omega
theorem one_lens {L : PL} (h : 0 < L.length) : Lib.Pa.lens (L.drop 1) + (L.drop 1).length ≤ Lib.Pa.lens L + L.length ∧ (L.drop 1).length < L.length := by
  cases L with
  | nil => simp at h
  | cons x t => simp [Lib.Pa.lens]; omega

/-- What one of the rules for two dots leaves. -/
def ShPost (r : Bool) (L : PL) (w : World) (e : Ending) (w' : World) : Prop :=
  Below w.heap.size w w' ∧ ∃ v' L' b, e = .returned (.tuple #[v', .bool b]) ∧ StrRow w' v' L' ∧ Some2 L' ∧ red r L' = red r L ∧ Lib.Pa.lens L' + L'.length ≤ Lib.Pa.lens L + L.length ∧ (b = true → L'.length < L.length) ∧ (b = false → L' = L ∧ red r L = L)

def ShRel (L : PL) (i : Value) : Prop := ∃ k : Nat, i = .int .i64 ((k : Int) + 1) ∧ (k + 1 ≤ L.length ∨ k = 0) ∧ ∀ j : Nat, j < k → L[j + 1]? = some dd → L[j]? = some dd

theorem src_drop {L : PL} {g o : Nat} {w W : World} (HC : ∀ (j : Nat) x, L[j]? = some x → w.cell? ⟨g, o + j, none⟩ = some (S x)) (hg : g < w.heap.size) (hb : Below w.heap.size w W) (a b : Nat) (hab : b = o + a) : ∀ (j : Nat) u, ((L.drop a).map fun l => S l)[j]? = some u → W.cell? ((⟨g, b, none⟩ : Addr).add j) = some u := by
  intro j u hj
  subst hab
  rw [List.getElem?_map, List.getElem?_drop] at hj
  cases hq : L[a + j]? with
  | none => rw [hq] at hj; cases hj
  | some z =>
    rw [hq] at hj
    have hz : u = S z := (Option.some.inj hj).symm
    have ea : (⟨g, o + a, none⟩ : Addr).add j = ⟨g, o + (a + j), none⟩ := by unfold Addr.add; split <;> simp_all [Nat.add_assoc]
    rw [ea, hz]
    exact (hb.cell (p := ⟨g, o + (a + j), none⟩) hg).trans (HC _ z hq)
theorem src_take {L : PL} {g o : Nat} {w W : World} (HC : ∀ (j : Nat) x, L[j]? = some x → w.cell? ⟨g, o + j, none⟩ = some (S x)) (hg : g < w.heap.size) (hb : Below w.heap.size w W) (a : Nat) : ∀ (j : Nat) u, ((L.take a).map fun l => S l)[j]? = some u → W.cell? ((⟨g, o, none⟩ : Addr).add j) = some u := by
  intro j u hj
  refine src_drop HC hg hb 0 o rfl j u ?_
  rw [List.drop_zero]
  rw [List.getElem?_map] at hj ⊢
  cases hq : (L.take a)[j]? with
  | none => rw [hq] at hj; cases hj
  | some z =>
    rw [hq] at hj
    have hja : j < a := by
      have := (List.getElem?_eq_some_iff.1 hq).1
      rw [List.length_take] at this
      omega
    rw [List.getElem?_take_of_lt hja] at hq
    rw [hq]
    exact hj
theorem row_of_own {b : Nat} {w : World} {v : Value} {n : Nat} {xs : PL} {cs : List Value} (h : w.ownsRow b 9 1 v n cs) (hn : v ≠ .slice none 0 0) (e : xs.length = n) (ec : xs.map (fun l => S l) = cs) : StrRow w v xs := (Lists.of h hn e ec).row
theorem below_drew {B : Nat} {w W : World} (h : Below B w W) : Below B w W.drew := ⟨h.os, h.tape, h.output, h.size, h.block⟩
theorem below_alloc_drew (w : World) (o : Obj) : Below w.heap.size w (w.alloc o).drew := below_drew ((Below.refl _ w).alloc (Nat.le_refl _) o)
theorem step_one {w W w4 : World} {g cap k b : Nat} {A : List Value} (h : w4.ownsRow b 9 1 (.slice (some ⟨g, 0, none⟩) (0 + k) cap) (0 + k) ([] ++ A)) (hg : W.grownBy w4 (Value.slice (some ⟨w.heap.size, 0, none⟩) 0 0).ownBlock) (hW : Below w.heap.size w W := by exact below_alloc_drew _ _) :
    w4.ownsRow b 9 1 (.slice (some ⟨g, 0, none⟩) k cap) k A ∧ Below w.heap.size w w4 ∧ (A = [] ∨ k ≤ cap) ∧ True := by
  rw [Nat.zero_add, List.nil_append] at h
  refine ⟨h, hW.trans (grown_below hg hW.size (fun j e => by have : w.heap.size = j := Option.some.inj e; omega)), ?_, trivial⟩
  have hr := h.2
  rcases hr with ⟨e, _⟩ | ⟨g', cap', cur, e1, e2, e3, e4, e5, _⟩
  · cases e
  · injection e1 with _ _ e
    subst e
    exact .inr e4
theorem step_two {w W w5 : World} {v : Value} (hW : Below w.heap.size w W) (hg : W.grownBy w5 v.ownBlock) (hlt : ∀ k, v.ownBlock = some k → w.heap.size ≤ k ∧ k < W.heap.size) : Below w.heap.size w w5 :=
  hW.trans (grown_below hg hW.size (fun j e => (hlt j e).1))

set_option maxRecDepth 100000 in
set_option maxHeartbeats 2000000 in
theorem shorter_call (r : Bool) (L : PL) (v : Value) (w : World) (h : StrRow w v L) (hS : Some2 L) (hl : L.length ≤ 4294967296) :
    Calls Tryd.prog 75 #[v, .bool r] w (ShPost r L w) := by
  obtain ⟨i0, hi, hz0, hz1, hz2⟩ := info_parts infoStr
  obtain ⟨g, o, cap, rfl, hcap, hcm, hg, hcells⟩ := h
  have HC := Lib.hid hcells
  have HS := Lib.hid hS
  have HP : Hid (∀ (e : Ending) (w' : World), Below w.heap.size w w' → (∃ v' L' b, e = .returned (.tuple #[v', .bool b]) ∧ StrRow w' v' L' ∧ Some2 L' ∧ red r L' = red r L ∧ Lib.Pa.lens L' + L'.length ≤ Lib.Pa.lens L + L.length ∧ (b = true → L'.length < L.length) ∧ (b = false → L' = L ∧ red r L = L)) → ShPost r L w e w') := Lib.hid (fun _ _ h1 h2 => ⟨h1, h2⟩)
  clear hcells hS
  by_cases hroot : r = true ∧ L[0]? = some dd
  · obtain ⟨rfl, hr0⟩ := hroot
    have hlp : 0 < L.length := (List.getElem?_eq_some_iff.1 hr0).1
    have hc0 : w.cell? ⟨g, o, none⟩ = some (S dd) := HC.out 0 dd hr0
    obtain ⟨ol1, ol2⟩ := one_lens hlp
    have hd1 : (L.drop 1).length = L.length - 1 := List.length_drop
    have HF : Hid (∀ a, (a = (⟨g, o, none⟩ : Addr) ∧ cap = 1 ∨ a = ⟨g, o + 1, none⟩) → ∃ v' L' b, Ending.returned (.tuple #[.slice (some a) (L.length - 1) (cap - 1), .bool true]) = .returned (.tuple #[v', .bool b]) ∧ StrRow w v' L' ∧ Some2 L' ∧ red true L' = red true L ∧ Lib.Pa.lens L' + L'.length ≤ Lib.Pa.lens L + L.length ∧ (b = true → L'.length < L.length) ∧ (b = false → L' = L ∧ red true L = L)) := Lib.hid (fun a ha => by
      refine ⟨_, L.drop 1, true, rfl, ?_, HS.out.drop 1, red_root L hr0, ol1, fun _ => ol2, fun e => by cases e⟩
      rcases ha with ⟨rfl, hc⟩ | rfl
      · refine ⟨g, o, cap - 1, by rw [hd1], by omega, by omega, hg, fun j x hj => ?_⟩
        have := (List.getElem?_eq_some_iff.1 hj).1
        omega
      · refine ⟨g, o + 1, cap - 1, by rw [hd1], by omega, by omega, hg, fun j x hj => ?_⟩
        rw [List.getElem?_drop] at hj
        have := HC.out (1 + j) x hj
        rw [show o + 1 + j = o + (1 + j) by omega]
        exact this)
    have hli : (0 : Int) < (L.length : Int) := by omega
    have hli1 : (1 : Int) ≤ (L.length : Int) := by omega
    clear HC HS hr0 ol1 ol2 hd1
    unfold maxLen at hcm
    by_cases hcap1 : cap = 1
    · subst hcap1
      obtain hL1 : L.length = 1 := by omega
      go_enter Tryd.func75, Tryd.ntmps75
      go_wp2
      go_ret2
      exact HP.out _ _ (Below.refl _ _) (by have := HF.out ⟨g, o, none⟩ (.inl ⟨rfl, by first | rfl | trivial⟩); simpa [hL1] using this)
    · have hcap2 : (1 : Int) < (cap : Int) := by omega
      have hcap3 : ¬ cap ≤ 1 := by omega
      go_enter Tryd.func75, Tryd.ntmps75
      go_wp2
      go_ret2
      exact HP.out _ _ (Below.refl _ _) (HF.out ⟨g, o + 1, none⟩ (.inr rfl))
  · have HNR : Hid (r = true → L[0]? ≠ some dd) := Lib.hid (fun h1 h2 => hroot ⟨h1, h2⟩)
    unfold maxLen at hcm
    by_cases hL0 : L = []
    · subst hL0
      have HE := Lib.hid (HP.out (.returned (.tuple #[.slice (some ⟨g, o, none⟩) 0 cap, .bool false])) w (Below.refl _ _) ⟨_, [], false, rfl, ⟨g, o, cap, rfl, Nat.zero_le _, hcm, hg, fun j x hj => by simp at hj⟩, (fun x hx => by cases hx), rfl, Nat.le_refl _, (fun e => by cases e), fun _ => ⟨rfl, rfl⟩⟩)
      clear HC HS HP HNR hroot
      cases r
      all_goals
        go_enter Tryd.func75, Tryd.ntmps75
        go_wp2
        go_loop [6] (fun i => i = .int .i64 1) (fun _ => 0)
        case atStart => rfl
        case round =>
          subst hrel
          go_wp2
          go_ret2
          exact HE.out
    · have hlp : 0 < L.length := List.length_pos_iff.2 hL0
      obtain ⟨x0, hx0⟩ : ∃ x, L[0]? = some x := ⟨_, List.getElem?_eq_getElem hlp⟩
      have hc0 : w.cell? ⟨g, o, none⟩ = some (S x0) := HC.out 0 x0 hx0
      have hlpi : (0 : Int) < (L.length : Int) := by omega
      have hd0 : r = true → (x0 == [46, 46]) = false := fun h => by
        rw [beq_eq_false_iff_ne]
        intro e
        exact HNR.out h (by rw [hx0, e])
      clear hx0 hL0 hroot
      cases r
      case true =>
        have hdd := hd0 rfl
        clear hd0
        go_enter Tryd.func75, Tryd.ntmps75
        go_wp2
        go_loop [6] (fun i => ShRel L i) (fun i => L.length - (intOf i).toNat)
        case atStart => exact ⟨0, rfl, .inr rfl, fun j hj => by omega⟩
        case round =>
          obtain ⟨k, rfl, hk, hno⟩ := hrel
          have HN := Lib.hid hno
          clear hno
          by_cases hkl : k + 1 < L.length
          · obtain ⟨x, hx⟩ : ∃ x, L[k + 1]? = some x := ⟨_, List.getElem?_eq_getElem hkl⟩
            obtain ⟨y, hy⟩ : ∃ y, L[k]? = some y := ⟨_, List.getElem?_eq_getElem (by omega)⟩
            have hcx : w.cell? ⟨g, o + (k + 1), none⟩ = some (S x) := HC.out (k + 1) x hx
            have hcy : w.cell? ⟨g, o + k, none⟩ = some (S y) := HC.out k y hy
            have HX := Lib.hid hx
            have HY := Lib.hid hy
            have hi1 : (k : Int) + 1 < (L.length : Int) := by omega
            have hi2 : (0 : Int) ≤ (k : Int) + 1 := by omega
            have hi3 : ((k : Int) + 1).toNat = k + 1 := by omega
            have hi4 : (k : Int) < (L.length : Int) := by omega
            clear hx hy
            by_cases hxd : x = dd
            · subst hxd
              by_cases hyd : y = dd
              · subst hyd
                have HNX : Hid (∀ j : Nat, j < k + 1 → L[j + 1]? = some dd → L[j]? = some dd) := Lib.hid (fun j hj h => by
                  by_cases e : j = k
                  · subst e; exact HY.out
                  · exact HN.out j (by omega) h)
                clear HN HX HY
                go_wp2
                go_round
                case rel => exact ⟨k + 1, by go_num, .inl (by omega), HNX.out⟩
                case measure => simp [intOf]; omega
              · have hyb : (y == [46, 46]) = false := by rw [beq_eq_false_iff_ne]; exact hyd
                have HST : Hid (StrRow w (.slice (some ⟨g, o, none⟩) L.length cap) L) := Lib.hid ⟨g, o, cap, rfl, hcap, by unfold maxLen; omega, hg, HC.out⟩
                obtain ⟨tl1, tl2⟩ := two_lens hkl
                have HF : Hid (∀ w' v', Below w.heap.size w w' → StrRow w' v' (L.take k ++ L.drop (k + 2)) → ShPost true L w (.returned (.tuple #[v', .bool true])) w') := Lib.hid (fun w' v' h1 h2 => HP.out _ w' h1 ⟨v', _, true, rfl, h2, HS.out.two k (k + 2), red_pair true L HS.out k y HX.out HY.out hyd, tl1, fun _ => tl2, fun e => by cases e⟩)
                have hd1 : (L.take k ++ L.drop (k + 2)).length = k + (L.length - (k + 2)) := by rw [List.length_append, List.length_take, List.length_drop]; omega
                have HCC := HC
                clear HN HX HY HNR HP HS HC tl1 tl2 hyd
                have hw1 : IntKind.i64.wrap ((k : Int) + 1 - 1) = (k : Int) := by rw [IntKind.wrap_i64]; omega
                have hw1' : IntKind.i64.wrap (k : Int) = (k : Int) := by rw [IntKind.wrap_i64]; omega
                have hw2 : IntKind.i64.wrap ((k : Int) + 1 + 1) = (k : Int) + 2 := by rw [IntKind.wrap_i64]; omega
                have hw2' : IntKind.i64.wrap ((k : Int) + 2) = (k : Int) + 2 := by rw [IntKind.wrap_i64]; omega
                have hz4 : (k : Int) ≤ (cap : Int) := by omega
                have hz5 : (0 : Int) ≤ (k : Int) := by omega
                have hz6 : (0 : Int) ≤ (k : Int) + 2 := by omega
                have hz7 : (k : Int) + 2 ≤ (L.length : Int) := by omega
                have hz8 : ((k : Int) + 2).toNat = k + 2 := by omega
                have hz9 : (L.length : Int) ≤ (cap : Int) := by omega
                have HA1 : Hid (((L.take k).map fun l => S l).length = k * 1) := Lib.hid (by rw [List.length_map, List.length_take]; omega)
                have HA2 : Hid (((L.drop (k + 2)).map fun l => S l).length = (L.length - (k + 2)) * 1) := Lib.hid (by rw [List.length_map, List.length_drop]; omega)
                have HL5 : Hid ((L.take k ++ L.drop (k + 2)).length = k + (L.length - (k + 2))) := Lib.hid hd1
                have HM5 : Hid ((L.take k ++ L.drop (k + 2)).map (fun l => S l) = ((L.take k).map fun l => S l) ++ ((L.drop (k + 2)).map fun l => S l)) := Lib.hid (List.map_append)
                have HOW : Hid ((w.alloc (.cells #[] 9)).drew.ownsRow w.heap.size 9 1 (.slice (some ⟨w.heap.size, 0, none⟩) 0 0) 0 []) := Lib.hid (World.ownsRow_made w #[] 0 (Nat.le_refl _) (by unfold maxLen; omega) rfl).drew
                have HC := HCC
                clear HCC hd1
                by_cases hk0 : k = 0
                · subst hk0
                  have HF0 : Hid (∀ w' v', Below w.heap.size w w' → StrRow w' v' (L.drop 2) → ShPost true L w (.returned (.tuple #[v', .bool true])) w') := Lib.hid (fun w' v' h1 h2 => HF.out w' v' h1 (by simpa using h2))
                  have HA0 : Hid (((L.drop 2).map fun l => S l).length = (L.length - 2) * 1) := Lib.hid (by simp)
                  have HL0 : Hid ((L.drop 2).length = 0 + (L.length - 2)) := Lib.hid (by simp)
                  clear HF HA1 HA2 HL5 HM5 HST
                  by_cases hend : 2 < L.length
                  · have hcp : ¬ cap = 2 := by omega
                    have hcp2 : ¬ 2 = cap := by omega
                    have hcp3 : ¬ cap ≤ 2 := by omega
                    have hcp4 : (2 : Int) < (cap : Int) := by omega
                    have hcp5 : (2 : Int) ≤ (L.length : Int) := by omega
                    clear hw1 hw2 hw1' hw2'
                    have hw3 : IntKind.i64.wrap 0 = 0 := by decide
                    have hw4 : IntKind.i64.wrap 2 = 2 := by decide
                    have hq0 : (0 : Int) ≤ (cap : Int) := by omega
                    have hq1 : w.cell? ⟨g, o + 1, none⟩ = some (S dd) := hcx
                    have hq2 : w.cell? ⟨g, o, none⟩ = some (S y) := hcy
                    have hq3 : (1 : Int) < (L.length : Int) := by omega
                    clear hcx hcy hi1 hi2 hi3 hi4 hk hkl hz4 hz5 hz6 hz7 hz8
                    go_wp2_with fail
                    go_region_law (first | (refine step_append_lies _ (by rfl) _ _ _ (by rfl) w.heap.size 9 i0 (.string ByteArray.empty) 1 16 Tryd.underlying36 hi hz0 hz1 hz2 rfl (by decide) _ 0 [] (by rfl) HOW.out ⟨g, o + 2, none⟩ (L.length - 2) (cap - 2) ((L.drop 2).map fun l => S l) (by rfl) HA0.out (src_drop HC.out hg (below_alloc_drew w _) 2 _ rfl) (all_one _) (by omega) (by unfold maxLen; omega) (by omega) (below_alloc_drew w _).size _ rfl ?_; intro g5 cap5 w5 hown' hgrow hat hlt5; have hb5 := step_two (below_alloc_drew w _) hgrow (World.ownsRow.lt HOW.out); have HO5 := Lib.hid hown'; have HB5 := Lib.hid hb5; clear hown' hgrow hat hb5) | fail)
                    all_goals
                      go_wp2
                      go_ret2
                      exact HF0.out _ _ HB5.out (row_of_own (v := .slice (some ⟨g5, 0, none⟩) (L.length - 2) cap5) (by have h := HO5.out; rw [Nat.zero_add] at h; exact h) (by simp) (by have h := HL0.out; rw [Nat.zero_add] at h; exact h) (List.nil_append _).symm)
                  · have hL2 : L.length = 2 := by omega
                    have hd2 : L.drop 2 = [] := List.drop_eq_nil_of_le (by omega)
                    rw [hd2] at HF0
                    have hw3 : IntKind.i64.wrap 0 = 0 := by decide
                    have hw4 : IntKind.i64.wrap 2 = 2 := by decide
                    have hq0 : (0 : Int) ≤ (cap : Int) := by omega
                    have hq1 : w.cell? ⟨g, o + 1, none⟩ = some (S dd) := hcx
                    have hq2 : w.cell? ⟨g, o, none⟩ = some (S y) := hcy
                    have hq6 : (2 : Int) ≤ (cap : Int) := by omega
                    have HG : Hid (StrRow (w.alloc (.cells #[] 9)).drew (.slice (some ⟨w.heap.size, 0, none⟩) 0 0) []) := Lib.hid ⟨w.heap.size, 0, 0, rfl, Nat.le_refl _, by unfold maxLen; omega, by simp, fun j x hj => by simp at hj⟩
                    clear hcx hcy hi1 hi2 hi3 hi4 hk hkl hz4 hz5 hz6 hz7 hz8 hw1 hw2 hw1' hw2' hd2 HA0 HL0 HOW HC hend hz9 hlp hlpi
                    by_cases hcp : cap = 2
                    · subst hcp
                      go_wp2_with fail
                      go_region_law (fail)
                      all_goals
                        go_wp2
                        go_ret2
                        exact HF0.out _ _ (below_alloc_drew w _) HG.out
                    · have hcp2 : ¬ 2 = cap := by omega
                      have hcp3 : ¬ cap ≤ 2 := by omega
                      have hcp4 : (2 : Int) < (cap : Int) := by omega
                      go_wp2_with fail
                      go_region_law (fail)
                      all_goals
                        go_wp2
                        go_ret2
                        exact HF0.out _ _ (below_alloc_drew w _) HG.out
                · have hkp : 0 < k := by omega
                  clear hk0
                  by_cases hend : k + 2 < L.length
                  · have hcp : ¬ cap = k + 2 := by omega
                    have hcp2 : ¬ k + 2 = cap := by omega
                    have hcp3 : ¬ cap ≤ k + 2 := by omega
                    have hcp4 : (k : Int) + 2 < (cap : Int) := by omega
                    go_wp2_with fail
                    go_region_law (first | (refine step_append_lies _ (by rfl) _ _ _ (by rfl) w.heap.size 9 i0 (.string ByteArray.empty) 1 16 Tryd.underlying36 hi hz0 hz1 hz2 rfl (by decide) _ 0 [] (by rfl) HOW.out ⟨g, o, none⟩ k cap ((L.take k).map fun l => S l) (by rfl) HA1.out (src_take HC.out hg (below_alloc_drew w _) k) (all_one _) hkp (by unfold maxLen; omega) (by omega) (by simp) _ rfl ?_; intro g4 cap4 w4 hown' hgrow hat hlt4; obtain ⟨hown4, hb4, hc4, hm4⟩ := step_one hown' hgrow; have HO4 := Lib.hid hown4; have HB4 := Lib.hid hb4; clear hown' hgrow hat hown4 hb4) | (refine step_append_lies _ (by rfl) _ _ _ (by rfl) w.heap.size 9 i0 (.string ByteArray.empty) 1 16 Tryd.underlying36 hi hz0 hz1 hz2 rfl (by decide) _ k ((L.take k).map fun l => S l) (by rfl) HO4.out ⟨g, o + (k + 2), none⟩ (L.length - (k + 2)) (cap - (k + 2)) ((L.drop (k + 2)).map fun l => S l) (by rfl) HA2.out (src_drop HC.out hg (HB4.out) (k + 2) _ rfl) (all_one _) (by omega) (by unfold maxLen; omega) (by omega) (HB4.out).size _ rfl ?_; intro g5 cap5 w5 hown' hgrow hat hlt5; have hb5 := step_two (HB4.out) hgrow (World.ownsRow.lt HO4.out); have HO5 := Lib.hid hown'; have HB5 := Lib.hid hb5; clear hown' hgrow hat hb5))
                    all_goals
                      go_wp2
                      go_ret2
                      exact HF.out _ _ HB5.out (row_of_own (v := .slice (some ⟨g5, 0, none⟩) (k + (L.length - (k + 2))) cap5) HO5.out (by simp) HL5.out HM5.out)
                  · obtain hLk : L.length = k + 2 := by omega
                    have HHL : Hid (L.take k ++ L.drop (k + 2) = L.take k) := Lib.hid (by rw [List.drop_eq_nil_of_le (by omega), List.append_nil])
                    have HL1 : Hid ((L.take k).length = k) := Lib.hid (by rw [List.length_take]; omega)
                    have hzz0 : L.length - (k + 2) = 0 := by omega
                    have HNE : Hid (¬ ((L.take k).map fun l => S l) = []) := Lib.hid (fun e => by have := HL1.out; rw [List.map_eq_nil_iff.1 e] at this; simp at this; omega)
                    clear HL5 HM5 HA2 hend hlp hlpi hkl
                    have hkc : k + 2 ≤ cap := by omega
                    have hkci : (k : Int) + 2 ≤ (cap : Int) := by omega
                    by_cases hcp : cap = k + 2
                    · have hcpt : (cap = k + 2) = True := eq_true hcp
                      have hcpt2 : (k + 2 = cap) = True := eq_true hcp.symm
                      clear hcp
                      go_wp2_with fail
                      go_region_law (first | (refine step_append_lies _ (by rfl) _ _ _ (by rfl) w.heap.size 9 i0 (.string ByteArray.empty) 1 16 Tryd.underlying36 hi hz0 hz1 hz2 rfl (by decide) _ 0 [] (by rfl) HOW.out ⟨g, o, none⟩ k cap ((L.take k).map fun l => S l) (by rfl) HA1.out (src_take HC.out hg (below_alloc_drew w _) k) (all_one _) hkp (by unfold maxLen; omega) (by omega) (by simp) _ rfl ?_; intro g4 cap4 w4 hown' hgrow hat hlt4; obtain ⟨hown4, hb4, hc4, hm4⟩ := step_one hown' hgrow; have hc5 := hc4.resolve_left HNE.out; have HO4 := Lib.hid hown4; have HB4 := Lib.hid hb4; clear hown' hgrow hat hown4 hb4 hc4) | fail)
                      all_goals
                        go_wp2
                        go_ret2
                        exact HF.out _ _ HB4.out (by rw [HHL.out]; exact row_of_own (v := .slice (some ⟨g4, 0, none⟩) k cap4) HO4.out (by simp) HL1.out rfl)
                    · have hcp2 : ¬ k + 2 = cap := by omega
                      have hcp3 : ¬ cap ≤ k + 2 := by omega
                      have hcp4 : (k : Int) + 2 < (cap : Int) := by omega
                      go_wp2_with fail
                      go_region_law (first | (refine step_append_lies _ (by rfl) _ _ _ (by rfl) w.heap.size 9 i0 (.string ByteArray.empty) 1 16 Tryd.underlying36 hi hz0 hz1 hz2 rfl (by decide) _ 0 [] (by rfl) HOW.out ⟨g, o, none⟩ k cap ((L.take k).map fun l => S l) (by rfl) HA1.out (src_take HC.out hg (below_alloc_drew w _) k) (all_one _) hkp (by unfold maxLen; omega) (by omega) (by simp) _ rfl ?_; intro g4 cap4 w4 hown' hgrow hat hlt4; obtain ⟨hown4, hb4, hc4, hm4⟩ := step_one hown' hgrow; have hc5 := hc4.resolve_left HNE.out; have HO4 := Lib.hid hown4; have HB4 := Lib.hid hb4; clear hown' hgrow hat hown4 hb4 hc4) | fail)
                      all_goals
                        go_wp2
                        go_ret2
                        exact HF.out _ _ HB4.out (by rw [HHL.out]; exact row_of_own (v := .slice (some ⟨g4, 0, none⟩) k cap4) HO4.out (by simp) HL1.out rfl)
            · have hxb : (x == [46, 46]) = false := by rw [beq_eq_false_iff_ne]; exact hxd
              have HNX : Hid (∀ j : Nat, j < k + 1 → L[j + 1]? = some dd → L[j]? = some dd) := Lib.hid (fun j hj h => by
                by_cases e : j = k
                · subst e; rw [HX.out] at h; exact absurd (Option.some.inj h) hxd
                · exact HN.out j (by omega) h)
              clear HN HX HY hxd
              go_wp2
              go_round
              case rel => exact ⟨k + 1, by go_num, .inl (by omega), HNX.out⟩
              case measure => simp [intOf]; omega
          · have hki : ¬ (k : Int) + 1 < (L.length : Int) := by omega
            have HE : Hid (ShPost true L w (.returned (.tuple #[.slice (some ⟨g, o, none⟩) L.length cap, .bool false])) w) := Lib.hid (HP.out _ w (Below.refl _ _) ⟨_, L, false, rfl, ⟨g, o, cap, rfl, hcap, hcm, hg, HC.out⟩, HS.out, rfl, Nat.le_refl _, (fun e => by cases e), fun _ => ⟨rfl, red_done true L HS.out (fun _ => HNR.out trivial) (fun j h => HN.out j (by have := (List.getElem?_eq_some_iff.1 h).1; omega) h)⟩⟩)
            clear HN HC HS HP HNR
            go_wp2
            go_ret2
            exact HE.out
      case false =>
        clear hd0 hc0
        go_enter Tryd.func75, Tryd.ntmps75
        go_wp2
        go_loop [6] (fun i => ShRel L i) (fun i => L.length - (intOf i).toNat)
        case atStart => exact ⟨0, rfl, .inr rfl, fun j hj => by omega⟩
        case round =>
          obtain ⟨k, rfl, hk, hno⟩ := hrel
          have HN := Lib.hid hno
          clear hno
          by_cases hkl : k + 1 < L.length
          · obtain ⟨x, hx⟩ : ∃ x, L[k + 1]? = some x := ⟨_, List.getElem?_eq_getElem hkl⟩
            obtain ⟨y, hy⟩ : ∃ y, L[k]? = some y := ⟨_, List.getElem?_eq_getElem (by omega)⟩
            have hcx : w.cell? ⟨g, o + (k + 1), none⟩ = some (S x) := HC.out (k + 1) x hx
            have hcy : w.cell? ⟨g, o + k, none⟩ = some (S y) := HC.out k y hy
            have HX := Lib.hid hx
            have HY := Lib.hid hy
            have hi1 : (k : Int) + 1 < (L.length : Int) := by omega
            have hi2 : (0 : Int) ≤ (k : Int) + 1 := by omega
            have hi3 : ((k : Int) + 1).toNat = k + 1 := by omega
            have hi4 : (k : Int) < (L.length : Int) := by omega
            clear hx hy
            by_cases hxd : x = dd
            · subst hxd
              by_cases hyd : y = dd
              · subst hyd
                have HNX : Hid (∀ j : Nat, j < k + 1 → L[j + 1]? = some dd → L[j]? = some dd) := Lib.hid (fun j hj h => by
                  by_cases e : j = k
                  · subst e; exact HY.out
                  · exact HN.out j (by omega) h)
                clear HN HX HY
                go_wp2
                go_round
                case rel => exact ⟨k + 1, by go_num, .inl (by omega), HNX.out⟩
                case measure => simp [intOf]; omega
              · have hyb : (y == [46, 46]) = false := by rw [beq_eq_false_iff_ne]; exact hyd
                have HST : Hid (StrRow w (.slice (some ⟨g, o, none⟩) L.length cap) L) := Lib.hid ⟨g, o, cap, rfl, hcap, by unfold maxLen; omega, hg, HC.out⟩
                obtain ⟨tl1, tl2⟩ := two_lens hkl
                have HF : Hid (∀ w' v', Below w.heap.size w w' → StrRow w' v' (L.take k ++ L.drop (k + 2)) → ShPost false L w (.returned (.tuple #[v', .bool true])) w') := Lib.hid (fun w' v' h1 h2 => HP.out _ w' h1 ⟨v', _, true, rfl, h2, HS.out.two k (k + 2), red_pair false L HS.out k y HX.out HY.out hyd, tl1, fun _ => tl2, fun e => by cases e⟩)
                have hd1 : (L.take k ++ L.drop (k + 2)).length = k + (L.length - (k + 2)) := by rw [List.length_append, List.length_take, List.length_drop]; omega
                have HCC := HC
                clear HN HX HY HNR HP HS HC tl1 tl2 hyd
                have hw1 : IntKind.i64.wrap ((k : Int) + 1 - 1) = (k : Int) := by rw [IntKind.wrap_i64]; omega
                have hw1' : IntKind.i64.wrap (k : Int) = (k : Int) := by rw [IntKind.wrap_i64]; omega
                have hw2 : IntKind.i64.wrap ((k : Int) + 1 + 1) = (k : Int) + 2 := by rw [IntKind.wrap_i64]; omega
                have hw2' : IntKind.i64.wrap ((k : Int) + 2) = (k : Int) + 2 := by rw [IntKind.wrap_i64]; omega
                have hz4 : (k : Int) ≤ (cap : Int) := by omega
                have hz5 : (0 : Int) ≤ (k : Int) := by omega
                have hz6 : (0 : Int) ≤ (k : Int) + 2 := by omega
                have hz7 : (k : Int) + 2 ≤ (L.length : Int) := by omega
                have hz8 : ((k : Int) + 2).toNat = k + 2 := by omega
                have hz9 : (L.length : Int) ≤ (cap : Int) := by omega
                have HA1 : Hid (((L.take k).map fun l => S l).length = k * 1) := Lib.hid (by rw [List.length_map, List.length_take]; omega)
                have HA2 : Hid (((L.drop (k + 2)).map fun l => S l).length = (L.length - (k + 2)) * 1) := Lib.hid (by rw [List.length_map, List.length_drop]; omega)
                have HL5 : Hid ((L.take k ++ L.drop (k + 2)).length = k + (L.length - (k + 2))) := Lib.hid hd1
                have HM5 : Hid ((L.take k ++ L.drop (k + 2)).map (fun l => S l) = ((L.take k).map fun l => S l) ++ ((L.drop (k + 2)).map fun l => S l)) := Lib.hid (List.map_append)
                have HOW : Hid ((w.alloc (.cells #[] 9)).drew.ownsRow w.heap.size 9 1 (.slice (some ⟨w.heap.size, 0, none⟩) 0 0) 0 []) := Lib.hid (World.ownsRow_made w #[] 0 (Nat.le_refl _) (by unfold maxLen; omega) rfl).drew
                have HC := HCC
                clear HCC hd1
                by_cases hk0 : k = 0
                · subst hk0
                  have HF0 : Hid (∀ w' v', Below w.heap.size w w' → StrRow w' v' (L.drop 2) → ShPost false L w (.returned (.tuple #[v', .bool true])) w') := Lib.hid (fun w' v' h1 h2 => HF.out w' v' h1 (by simpa using h2))
                  have HA0 : Hid (((L.drop 2).map fun l => S l).length = (L.length - 2) * 1) := Lib.hid (by simp)
                  have HL0 : Hid ((L.drop 2).length = 0 + (L.length - 2)) := Lib.hid (by simp)
                  clear HF HA1 HA2 HL5 HM5 HST
                  by_cases hend : 2 < L.length
                  · have hcp : ¬ cap = 2 := by omega
                    have hcp2 : ¬ 2 = cap := by omega
                    have hcp3 : ¬ cap ≤ 2 := by omega
                    have hcp4 : (2 : Int) < (cap : Int) := by omega
                    have hcp5 : (2 : Int) ≤ (L.length : Int) := by omega
                    clear hw1 hw2 hw1' hw2'
                    have hw3 : IntKind.i64.wrap 0 = 0 := by decide
                    have hw4 : IntKind.i64.wrap 2 = 2 := by decide
                    have hq0 : (0 : Int) ≤ (cap : Int) := by omega
                    have hq1 : w.cell? ⟨g, o + 1, none⟩ = some (S dd) := hcx
                    have hq2 : w.cell? ⟨g, o, none⟩ = some (S y) := hcy
                    have hq3 : (1 : Int) < (L.length : Int) := by omega
                    clear hcx hcy hi1 hi2 hi3 hi4 hk hkl hz4 hz5 hz6 hz7 hz8
                    go_wp2_with fail
                    go_region_law (first | (refine step_append_lies _ (by rfl) _ _ _ (by rfl) w.heap.size 9 i0 (.string ByteArray.empty) 1 16 Tryd.underlying36 hi hz0 hz1 hz2 rfl (by decide) _ 0 [] (by rfl) HOW.out ⟨g, o + 2, none⟩ (L.length - 2) (cap - 2) ((L.drop 2).map fun l => S l) (by rfl) HA0.out (src_drop HC.out hg (below_alloc_drew w _) 2 _ rfl) (all_one _) (by omega) (by unfold maxLen; omega) (by omega) (below_alloc_drew w _).size _ rfl ?_; intro g5 cap5 w5 hown' hgrow hat hlt5; have hb5 := step_two (below_alloc_drew w _) hgrow (World.ownsRow.lt HOW.out); have HO5 := Lib.hid hown'; have HB5 := Lib.hid hb5; clear hown' hgrow hat hb5) | fail)
                    all_goals
                      go_wp2
                      go_ret2
                      exact HF0.out _ _ HB5.out (row_of_own (v := .slice (some ⟨g5, 0, none⟩) (L.length - 2) cap5) (by have h := HO5.out; rw [Nat.zero_add] at h; exact h) (by simp) (by have h := HL0.out; rw [Nat.zero_add] at h; exact h) (List.nil_append _).symm)
                  · have hL2 : L.length = 2 := by omega
                    have hd2 : L.drop 2 = [] := List.drop_eq_nil_of_le (by omega)
                    rw [hd2] at HF0
                    have hw3 : IntKind.i64.wrap 0 = 0 := by decide
                    have hw4 : IntKind.i64.wrap 2 = 2 := by decide
                    have hq0 : (0 : Int) ≤ (cap : Int) := by omega
                    have hq1 : w.cell? ⟨g, o + 1, none⟩ = some (S dd) := hcx
                    have hq2 : w.cell? ⟨g, o, none⟩ = some (S y) := hcy
                    have hq6 : (2 : Int) ≤ (cap : Int) := by omega
                    have HG : Hid (StrRow (w.alloc (.cells #[] 9)).drew (.slice (some ⟨w.heap.size, 0, none⟩) 0 0) []) := Lib.hid ⟨w.heap.size, 0, 0, rfl, Nat.le_refl _, by unfold maxLen; omega, by simp, fun j x hj => by simp at hj⟩
                    clear hcx hcy hi1 hi2 hi3 hi4 hk hkl hz4 hz5 hz6 hz7 hz8 hw1 hw2 hw1' hw2' hd2 HA0 HL0 HOW HC hend hz9 hlp hlpi
                    by_cases hcp : cap = 2
                    · subst hcp
                      go_wp2_with fail
                      go_region_law (fail)
                      all_goals
                        go_wp2
                        go_ret2
                        exact HF0.out _ _ (below_alloc_drew w _) HG.out
                    · have hcp2 : ¬ 2 = cap := by omega
                      have hcp3 : ¬ cap ≤ 2 := by omega
                      have hcp4 : (2 : Int) < (cap : Int) := by omega
                      go_wp2_with fail
                      go_region_law (fail)
                      all_goals
                        go_wp2
                        go_ret2
                        exact HF0.out _ _ (below_alloc_drew w _) HG.out
                · have hkp : 0 < k := by omega
                  clear hk0
                  by_cases hend : k + 2 < L.length
                  · have hcp : ¬ cap = k + 2 := by omega
                    have hcp2 : ¬ k + 2 = cap := by omega
                    have hcp3 : ¬ cap ≤ k + 2 := by omega
                    have hcp4 : (k : Int) + 2 < (cap : Int) := by omega
                    go_wp2_with fail
                    go_region_law (first | (refine step_append_lies _ (by rfl) _ _ _ (by rfl) w.heap.size 9 i0 (.string ByteArray.empty) 1 16 Tryd.underlying36 hi hz0 hz1 hz2 rfl (by decide) _ 0 [] (by rfl) HOW.out ⟨g, o, none⟩ k cap ((L.take k).map fun l => S l) (by rfl) HA1.out (src_take HC.out hg (below_alloc_drew w _) k) (all_one _) hkp (by unfold maxLen; omega) (by omega) (by simp) _ rfl ?_; intro g4 cap4 w4 hown' hgrow hat hlt4; obtain ⟨hown4, hb4, hc4, hm4⟩ := step_one hown' hgrow; have HO4 := Lib.hid hown4; have HB4 := Lib.hid hb4; clear hown' hgrow hat hown4 hb4) | (refine step_append_lies _ (by rfl) _ _ _ (by rfl) w.heap.size 9 i0 (.string ByteArray.empty) 1 16 Tryd.underlying36 hi hz0 hz1 hz2 rfl (by decide) _ k ((L.take k).map fun l => S l) (by rfl) HO4.out ⟨g, o + (k + 2), none⟩ (L.length - (k + 2)) (cap - (k + 2)) ((L.drop (k + 2)).map fun l => S l) (by rfl) HA2.out (src_drop HC.out hg (HB4.out) (k + 2) _ rfl) (all_one _) (by omega) (by unfold maxLen; omega) (by omega) (HB4.out).size _ rfl ?_; intro g5 cap5 w5 hown' hgrow hat hlt5; have hb5 := step_two (HB4.out) hgrow (World.ownsRow.lt HO4.out); have HO5 := Lib.hid hown'; have HB5 := Lib.hid hb5; clear hown' hgrow hat hb5))
                    all_goals
                      go_wp2
                      go_ret2
                      exact HF.out _ _ HB5.out (row_of_own (v := .slice (some ⟨g5, 0, none⟩) (k + (L.length - (k + 2))) cap5) HO5.out (by simp) HL5.out HM5.out)
                  · obtain hLk : L.length = k + 2 := by omega
                    have HHL : Hid (L.take k ++ L.drop (k + 2) = L.take k) := Lib.hid (by rw [List.drop_eq_nil_of_le (by omega), List.append_nil])
                    have HL1 : Hid ((L.take k).length = k) := Lib.hid (by rw [List.length_take]; omega)
                    have hzz0 : L.length - (k + 2) = 0 := by omega
                    have HNE : Hid (¬ ((L.take k).map fun l => S l) = []) := Lib.hid (fun e => by have := HL1.out; rw [List.map_eq_nil_iff.1 e] at this; simp at this; omega)
                    clear HL5 HM5 HA2 hend hlp hlpi hkl
                    have hkc : k + 2 ≤ cap := by omega
                    have hkci : (k : Int) + 2 ≤ (cap : Int) := by omega
                    by_cases hcp : cap = k + 2
                    · have hcpt : (cap = k + 2) = True := eq_true hcp
                      have hcpt2 : (k + 2 = cap) = True := eq_true hcp.symm
                      clear hcp
                      go_wp2_with fail
                      go_region_law (first | (refine step_append_lies _ (by rfl) _ _ _ (by rfl) w.heap.size 9 i0 (.string ByteArray.empty) 1 16 Tryd.underlying36 hi hz0 hz1 hz2 rfl (by decide) _ 0 [] (by rfl) HOW.out ⟨g, o, none⟩ k cap ((L.take k).map fun l => S l) (by rfl) HA1.out (src_take HC.out hg (below_alloc_drew w _) k) (all_one _) hkp (by unfold maxLen; omega) (by omega) (by simp) _ rfl ?_; intro g4 cap4 w4 hown' hgrow hat hlt4; obtain ⟨hown4, hb4, hc4, hm4⟩ := step_one hown' hgrow; have hc5 := hc4.resolve_left HNE.out; have HO4 := Lib.hid hown4; have HB4 := Lib.hid hb4; clear hown' hgrow hat hown4 hb4 hc4) | fail)
                      all_goals
                        go_wp2
                        go_ret2
                        exact HF.out _ _ HB4.out (by rw [HHL.out]; exact row_of_own (v := .slice (some ⟨g4, 0, none⟩) k cap4) HO4.out (by simp) HL1.out rfl)
                    · have hcp2 : ¬ k + 2 = cap := by omega
                      have hcp3 : ¬ cap ≤ k + 2 := by omega
                      have hcp4 : (k : Int) + 2 < (cap : Int) := by omega
                      go_wp2_with fail
                      go_region_law (first | (refine step_append_lies _ (by rfl) _ _ _ (by rfl) w.heap.size 9 i0 (.string ByteArray.empty) 1 16 Tryd.underlying36 hi hz0 hz1 hz2 rfl (by decide) _ 0 [] (by rfl) HOW.out ⟨g, o, none⟩ k cap ((L.take k).map fun l => S l) (by rfl) HA1.out (src_take HC.out hg (below_alloc_drew w _) k) (all_one _) hkp (by unfold maxLen; omega) (by omega) (by simp) _ rfl ?_; intro g4 cap4 w4 hown' hgrow hat hlt4; obtain ⟨hown4, hb4, hc4, hm4⟩ := step_one hown' hgrow; have hc5 := hc4.resolve_left HNE.out; have HO4 := Lib.hid hown4; have HB4 := Lib.hid hb4; clear hown' hgrow hat hown4 hb4 hc4) | fail)
                      all_goals
                        go_wp2
                        go_ret2
                        exact HF.out _ _ HB4.out (by rw [HHL.out]; exact row_of_own (v := .slice (some ⟨g4, 0, none⟩) k cap4) HO4.out (by simp) HL1.out rfl)
            · have hxb : (x == [46, 46]) = false := by rw [beq_eq_false_iff_ne]; exact hxd
              have HNX : Hid (∀ j : Nat, j < k + 1 → L[j + 1]? = some dd → L[j]? = some dd) := Lib.hid (fun j hj h => by
                by_cases e : j = k
                · subst e; rw [HX.out] at h; exact absurd (Option.some.inj h) hxd
                · exact HN.out j (by omega) h)
              clear HN HX HY hxd
              go_wp2
              go_round
              case rel => exact ⟨k + 1, by go_num, .inl (by omega), HNX.out⟩
              case measure => simp [intOf]; omega
          · have hki : ¬ (k : Int) + 1 < (L.length : Int) := by omega
            have HE : Hid (ShPost false L w (.returned (.tuple #[.slice (some ⟨g, o, none⟩) L.length cap, .bool false])) w) := Lib.hid (HP.out _ w (Below.refl _ _) ⟨_, L, false, rfl, ⟨g, o, cap, rfl, hcap, hcm, hg, HC.out⟩, HS.out, rfl, Nat.le_refl _, (fun e => by cases e), fun _ => ⟨rfl, red_done false L HS.out HNR.out (fun j h => HN.out j (by have := (List.getElem?_eq_some_iff.1 h).1; omega) h)⟩⟩)
            clear HN HC HS HP HNR
            go_wp2
            go_ret2
            exact HE.out

theorem joinC (g o cap : Nat) (L : PL) (w : World) (hc : ∀ (j : Nat) x, L[j]? = some x → w.cell? ⟨g, o + j, none⟩ = some (S x)) (hg : g < w.heap.size) (hcap : L.length ≤ cap) (hl : L.length ≤ 140737488355328) (hj : (J L).length ≤ 140737488355328) :
    Calls Tryd.prog 69 #[.slice (some ⟨g, o, none⟩) L.length cap, .string ⟨#[47]⟩] w fun e w' => e = .returned (S (J L)) ∧ Below w.heap.size w w' := by
  have em : (L.map mk).map (·.data.toList) = L := by
    rw [List.map_map]
    exact List.map_id' L
  have h := Tryd.strings_Join g o cap (L.map mk) ⟨#[47]⟩ w (fun j x hj => by
    rw [List.getElem?_map] at hj
    cases hq : L[j]? with
    | none => rw [hq] at hj; cases hj
    | some z =>
      rw [hq] at hj
      have hz : x = mk z := (Option.some.inj hj).symm
      rw [hz]
      exact hc j z hq) hg (by rw [List.length_map]; exact hl) (by rw [List.length_map]; exact hcap) (by rw [em]; exact hj)
  rw [em, List.length_map] at h
  exact h

def lenOf : Value → Nat
  | .slice _ n _ => n
  | _ => 0
def boolN : Value → Nat
  | .bool true => 1
  | _ => 0
def ClRel (r : Bool) (L0 : PL) (w : World) (lv mv : Value) (wr : World) : Prop :=
  ∃ L b, mv = .bool b ∧ StrRow wr lv L ∧ Some2 L ∧ red r L = red r L0 ∧ Lib.Pa.lens L + L.length ≤ Lib.Pa.lens L0 + L0.length ∧ (b = false → red r L = L) ∧ Below w.heap.size w wr

set_option maxHeartbeats 1000000 in
theorem specClean (l : List UInt8) (w : World) (hM : MaxAt w) (h : l.length ≤ 1000000000) :
    Calls Tryd.prog 30 #[S l] w fun e w' => e = .returned (S (Lib.Pa.clean l)) ∧ Below w.heap.size w w' := by
  have HM := Lib.hid hM
  obtain ⟨C, hC⟩ : ∃ C, C = Lib.Pa.clean l := ⟨_, rfl⟩
  have hrc := ref_clean l
  rw [← hC] at hrc ⊢
  have HRC := Lib.hid hrc
  clear hC hrc
  have hro : ([47] : List UInt8).isPrefixOf l = ro l := by
    cases l with
    | nil => rfl
    | cons c t => simp [List.isPrefixOf, ro, BEq.comm]
  have hel := elems_lens l
  have HEO := Lib.hid (elems_ok l)
  clear hM
  go_enter Tryd.func30, Tryd.ntmps30
  go_wp2_with fail
  refine (hasPrefixB _ _ l [47] _ rfl rfl).mono ?_
  rintro e w1 ⟨rfl, hb⟩
  rw [hro]
  have HB1 := Lib.hid hb
  have HM1 := Lib.hid (HM.out.on hb)
  clear hb HM hro
  go_wp2_with fail
  refine (elements_call l _ HM1.out h).mono ?_
  rintro e w2 ⟨v, rfl, hL, hb⟩
  have HB2 := Lib.hid (HB1.out.trans (hb.mono HB1.out.size))
  have HL := Lib.hid hL.row
  clear hb HB1 HM1 hL
  generalize elems l = L0 at *
  generalize ro l = r at *
  go_wp2
  go_loopw [4, 5] (fun lv mv wr => ClRel r L0 w lv mv wr) (fun lv mv _ => lenOf lv + boolN mv)
  case atStart => exact ⟨L0, true, rfl, HL.out, HEO.out, rfl, Nat.le_refl _, (fun e => by cases e), HB2.out⟩
  case round =>
    clear HL HB2
    obtain ⟨L, b, rfl, hR, hS2, hred, hlen, hfin, hbw⟩ := hrel
    obtain ⟨g, o, cap, rfl, hcap, hcm, hg, hcells⟩ := id hR
    have HR := Lib.hid hR
    have HS2 := Lib.hid hS2
    have HRED := Lib.hid hred
    have HB := Lib.hid hbw
    have HC := Lib.hid hcells
    have HFIN := Lib.hid hfin
    clear hR hS2 hred hbw hcells hfin
    cases b with
    | true =>
      clear HC HFIN
      go_wp2_with fail
      refine (shorter_call r L _ _ HR.out HS2.out (by omega)).mono ?_
      rintro e w3 ⟨hb, v', L', b', rfl, hrow, hs2, hrd, hle, h1, h2⟩
      have HX : Hid (ClRel r L0 w v' (.bool b') w3) := Lib.hid ⟨L', b', rfl, hrow, hs2, hrd.trans HRED.out, Nat.le_trans hle hlen, (fun e => by obtain ⟨rfl, h3⟩ := h2 e; exact h3), HB.out.trans (hb.mono HB.out.size)⟩
      have hm : lenOf v' + boolN (.bool b') < L.length + 1 := by
        obtain ⟨_, _, _, rfl, _⟩ := hrow
        cases b' with
        | true => have := h1 rfl; simp [lenOf, boolN]; omega
        | false => obtain ⟨rfl, _⟩ := h2 rfl; simp [lenOf, boolN]
      clear hb hrow hs2 hrd hle h1 h2 HR HS2 HRED HB
      go_wp2
      go_roundw
      case rel => exact HX.out
      case measure => simpa [lenOf, boolN] using hm
    | false =>
      have hrl : red r L0 = L := by rw [← HRED.out]; exact HFIN.out rfl
      rw [hrl] at HRC
      have hJ := J_len L
      clear HFIN HRED hrl HR
      go_wp2_with fail
      refine (joinC g o cap L _ HC.out hg hcap (by omega) (by omega)).mono ?_
      rintro e w3 ⟨rfl, hb⟩
      have HB3 := Lib.hid (HB.out.trans (hb.mono HB.out.size))
      clear hb HB HC
      generalize J L = X at *
      cases r with
      | true =>
        have HF : Hid (47 :: X = C) := Lib.hid HRC.out
        clear HRC
        go_wp2
        go_ret
        exact ⟨by rw [← HF.out]; exact ret_S (by first | rfl | (apply ByteArray.ext; simp)), HB3.out⟩
      | false =>
        have HF : Hid ((if X = [] then [46] else X) = C) := Lib.hid HRC.out
        clear HRC
        by_cases hX : X = []
        · subst hX
          have HF2 : Hid ([46] = C) := Lib.hid HF.out
          clear HF
          go_wp2
          go_ret
          exact ⟨by rw [← HF2.out]; rfl, HB3.out⟩
        · have hX1 : X.isEmpty = false := by cases X with | nil => exact absurd rfl hX | cons => rfl
          have HF2 : Hid (X = C) := Lib.hid (by rw [← HF.out, if_neg hX])
          clear HF hX
          go_wp2
          go_ret
          exact ⟨by rw [← HF2.out]; rfl, HB3.out⟩

theorem specDir (l : List UInt8) (w : World) (hM : MaxAt w) (h : l.length ≤ 1000000000) :
    Calls Tryd.prog 32 #[S l] w fun e w' => e = .returned (S (Lib.Pa.dir l)) ∧ Below w.heap.size w w' := by
  have HM := Lib.hid hM
  have hl : (Lib.Pa.split l).1.length ≤ l.length := by unfold Lib.Pa.split; simp; omega
  obtain ⟨D, hD⟩ : ∃ D, D = Lib.Pa.dir l := ⟨_, rfl⟩
  rw [← hD]
  have HD : Hid (Lib.Pa.clean (Lib.Pa.split l).1 = D) := Lib.hid hD.symm
  have HS : Hid (∀ W, Calls Tryd.prog 77 #[S l] W fun e w' => e = .returned (.tuple #[S (Lib.Pa.split l).1, S (Lib.Pa.split l).2]) ∧ Below W.heap.size W w') := Lib.hid (fun W => specSplit ⟨l.toArray⟩ W (by show l.length ≤ _; omega))
  clear hM hD
  generalize (Lib.Pa.split l).1 = X at *
  generalize (Lib.Pa.split l).2 = Y at *
  go_enter Tryd.func32, Tryd.ntmps32
  go_wp2_with fail
  refine (HS.out _).mono ?_
  rintro e w1 ⟨rfl, hb⟩
  have HB1 := Lib.hid hb
  have HM1 := Lib.hid (HM.out.on hb)
  clear hb HM HS
  go_wp2_with fail
  refine (specClean X _ HM1.out (by omega)).mono ?_
  rintro e w2 ⟨rfl, hb⟩
  have HB2 := Lib.hid (HB1.out.trans (hb.mono HB1.out.size))
  clear hb HB1
  rw [HD.out]
  go_wp2
  go_ret
  exact ⟨rfl, HB2.out⟩

end Go.Proofs.YtlekeaganaliiaaDoor

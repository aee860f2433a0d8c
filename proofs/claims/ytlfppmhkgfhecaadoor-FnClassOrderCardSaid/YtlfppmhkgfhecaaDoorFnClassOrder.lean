/-
  With the ranges of its classes in the other order a pattern answers every name as before: the law returns true for every input and leaves it as it was. Conditions: none.
  The frame round the walk is the kit's own (proof-skeleton.mjs).
-/
import Derived.Test.YtlfppmhkgfhecaaDoorRows
import Derived.Test.YtlfppmhkgfhecaaDoorLawG
import Derived.Test.YtlfppmhkgfhecaaDoorTermH
import Derived.Test.YtlfppmhkgfhecaaDoorDrawM
import Derived.Deep.AppendLies
import Derived.Deep.RegionLaw
import Derived.Test.YtlfppmhkgfhecaaDoorTie
import Derived.Test.YtlfppmhkgfhecaaDoorCards
import Derived.Test.YtlfppmhkgfhecaaDoorLaid
import Derived.LaidMore
import Derived.Lay
import Derived.SevenTiedAt
import Derived.Stop.Joined
namespace Go.Proofs.YtlfppmhkgfhecaaDoor.fnClassOrder
open Go.ChangeShapes Go.WideShapes Go.ChangeAt Go.RowKit
open Go.ChangeMaps (open_string shut_string)
set_option linter.unusedVariables false

/-- The loop over a class's ranges, backwards: the block behind T holds the term that is built. -/
def OrdRel (rs : List (Nat × Nat)) (T : Obj) (k c : Int) (n : Bool) (wo : World) (iv : Value) (W : World) : Prop :=
  ∃ (j : Nat) (v : Value) (x : Int), iv = .int .i64 x ∧ x = (j : Int) - 1 ∧ j ≤ rs.length ∧ W.heap[wo.heap.size]? = some T ∧ W.heap[wo.heap.size + 1]? = some (.cells #[.int .i64 k, .int .i32 c, .bool n, v] 33 (0, 0)) ∧
    OwnR (wo.heap.size + 2) W v (cst (rs.reverse.take (rs.length - j))) ∧ Below wo.heap.size wo W
theorem ord_start {rs : List (Nat × Nat)} {T : Array Value} {t : TypeId} {k c : Int} {n : Bool} {wo : World} (iv : Value) (hiv : iv = .int .i64 ((rs.length : Int) - 1)) : OrdRel rs (.cells T t (0, 0)) k c n wo iv ((wo.alloc (.cells T t)).alloc (.cells #[.int .i64 k, .int .i32 c, .bool n, .slice none 0 0] 33)) := by
  have e2 : (wo.alloc (.cells T t)).heap.size = wo.heap.size + 1 := by simp
  refine ⟨rs.length, .slice none 0 0, _, hiv, rfl, Nat.le_refl _, ?_, ?_, ?_, ((Below.refl wo.heap.size wo).alloc (Nat.le_refl _) _).alloc (by simp) _⟩
  · rw [(World.grownBy_alloc (wo.alloc (.cells T t)) _ none).block wo.heap.size (by simp) (by simp)]
    exact heap_alloc_new wo _
  · have := heap_alloc_new (wo.alloc (.cells T t)) (.cells #[.int .i64 k, .int .i32 c, .bool n, .slice none 0 0] 33)
    rw [e2] at this
    exact this
  · rw [Nat.sub_self, List.take_zero]
    exact ⟨rfl, .inl ⟨rfl, rfl⟩⟩
theorem ord_step {rs : List (Nat × Nat)} {T : Obj} {k c : Int} {n : Bool} {wo wr w4 : World} {v : Value} {m g cap N : Nat} {a b : Nat} {o : Obj} {X : List Value} (hr : rs[m]? = some (a, b)) (hN : N = (cst (rs.reverse.take (rs.length - (m + 1)))).length) (hX : X = rcells (cst (rs.reverse.take (rs.length - (m + 1)))))
    (hT : wr.heap[wo.heap.size]? = some T) (hU : wr.heap[wo.heap.size + 1]? = some (.cells #[.int .i64 k, .int .i32 c, .bool n, v] 33 (0, 0)))
    (hO : wr.ownsRow (wo.heap.size + 2) 38 2 v N X) (hB : Below wo.heap.size wo wr)
    (hown : w4.ownsRow (wo.heap.size + 2) 38 2 (.slice (some ⟨g, 0, none⟩) (N + 1) cap) (N + 1) (X ++ [.int .i32 (a : Nat), .int .i32 (b : Nat)])) (hg : (wr.alloc o).drew.grownBy w4 v.ownBlock)
    (iv : Value) (hiv : iv = .int .i64 ((m : Int) - 1)) : OrdRel rs T k c n wo iv (w4.setCell ⟨wo.heap.size + 1, 3, none⟩ (.slice (some ⟨g, 0, none⟩) (N + 1) cap)) := by
  have hml : m < rs.length := (List.getElem?_eq_some_iff.1 hr).1
  have hG1 : wr.grownBy w4 v.ownBlock := ⟨hg.os, hg.tape, hg.output, by have h : (wr.alloc o).heap.size ≤ w4.heap.size := hg.size; simp at h; omega, fun q hq hqn => (hg.block q (by show q < (wr.alloc o).heap.size; simp; omega) hqn).trans ((World.grownBy_alloc wr o none).block q hq (by simp))⟩
  have hT4 := (hG1.block wo.heap.size (lt_of_block hT) (fun e => by have := (hO.lt _ e.symm).1; omega)).trans hT
  have hU4 := (hG1.block (wo.heap.size + 1) (lt_of_block hU) (fun e => by have := (hO.lt _ e.symm).1; omega)).trans hU
  have hgg := (hown.lt g rfl).1
  have hsg : w4.grownBy (w4.setCell ⟨wo.heap.size + 1, 3, none⟩ (.slice (some ⟨g, 0, none⟩) (N + 1) cap)) (some (wo.heap.size + 1)) := grownBy_setCell w4 _ 3 _ 0
  have hk := World.ownsRow.kept hown hsg (.inr (fun e => by have e' : g = wo.heap.size + 1 := Option.some.inj e; omega))
  have hB4 := hB.grown hG1 hB.size (fun q e => by have := (hO.lt q e).1; omega)
  have htk : rs.reverse.take (rs.length - m) = rs.reverse.take (rs.length - (m + 1)) ++ [(a, b)] := by
    have e1 : rs.length - m = (rs.length - (m + 1)) + 1 := by omega
    rw [e1, List.take_add_one, List.getElem?_reverse (by omega), show rs.length - 1 - (rs.length - (m + 1)) = m by omega, hr]
    rfl
  refine ⟨m, _, _, hiv, rfl, by omega, (set_else (by omega)).trans hT4, set3 hU4 _, ?_, hB4.grown hsg hB4.size (fun q e => by injection e with e; omega)⟩
  subst hN hX
  rw [htk]
  have e2 : cst (rs.reverse.take (rs.length - (m + 1)) ++ [(a, b)]) = cst (rs.reverse.take (rs.length - (m + 1))) ++ [(((a : Nat) : Int), ((b : Nat) : Int))] := by simp [cst]
  rw [e2]
  unfold OwnR
  have e3 : rcells (cst (rs.reverse.take (rs.length - (m + 1))) ++ [(((a : Nat) : Int), ((b : Nat) : Int))]) = rcells (cst (rs.reverse.take (rs.length - (m + 1)))) ++ [.int .i32 (a : Nat), .int .i32 (b : Nat)] := by simp [rcells]
  rw [e3, List.length_append]
  exact hk
theorem frz4 {w : World} {g : Nat} {cs : Array Value} {t : TypeId} (h : w.heap[g]? = some (.cells cs t (0, 0))) (i : Nat) : w.frozen? ⟨g, i, none⟩ = false := by simp [World.frozen?, h]
set_option maxHeartbeats 2000000 in
theorem walk (a : Option Addr) (len cap : Nat) (zs : List Int) (w : World) (hr : IsRow .u8 w a len cap zs) (ae : Addr) (hE : Env ae w) :
    Calls Tryd.prog 4 #[.slice a len cap] w fun e w' => e = .returned (.bool true) ∧ Below w.heap.size w w' := by
  have HR := Lib.hid hr
  have HE := Lib.hid hE
  clear hr hE
  by_cases hlen : 1048576 < len
  · have hl' : (1048576 : Int) < len := by omega
    go_enter Tryd.func4, Tryd.ntmps4
    go_wp2
    go_ret
    exact ⟨rfl, Below.refl _ _⟩
  · have hl' : ¬ (1048576 : Int) < len := by omega
    go_enter Tryd.func4, Tryd.ntmps4
    go_wp2_with fail
    refine (drawMatch_any a len cap zs _ HR.out (by omega)).mono ?_
    rintro e w1 ⟨p, n, rfl, hpl, hnl, hb⟩
    have HE1 := Lib.hid (HE.out.on hb)
    have HB1 := Lib.hid hb
    clear hb HR HE
    go_wp2_with fail
    refine (yesStar ae w1 HE1.out).mono ?_
    rintro e w2 ⟨rfl, hb⟩
    have HE2 := Lib.hid (HE1.out.on hb)
    have HB2 := Lib.hid (HB1.out.trans (hb.mono HB1.out.size))
    clear hb HE1 HB1
    go_wp2_with fail
    refine (wellFormedB ae _ p w2 HE2.out rfl (by omega)).mono ?_
    rintro e w2b ⟨rfl, hb⟩
    have HE2b := Lib.hid (HE2.out.on hb)
    have HB2b := Lib.hid (HB2.out.trans (hb.mono HB2.out.size))
    clear hb HE2 HB2
    generalize hD : wfB p = D
    have HD := Lib.hid hD
    clear hD
    cases D with
    | false =>
      go_wp2
      go_ret
      exact ⟨rfl, HB2b.out⟩
    | true =>
     go_wp2_with fail
     refine (validB ae _ n w2b HE2b.out rfl (by omega)).mono ?_
     rintro e w3 ⟨rfl, hb⟩
     have HE3 := Lib.hid (HE2b.out.on hb)
     have HB3 := Lib.hid (HB2b.out.trans (hb.mono HB2b.out.size))
     clear hb HE2b HB2b
     generalize hV : Lib.validD n = V
     have HV := Lib.hid hV
     clear hV
     cases V with
     | false =>
      go_wp2
      go_ret
      exact ⟨rfl, HB3.out⟩
     | true =>
      obtain ⟨ts, hrd, hpa, hgood, _, _⟩ := wf_terms HD.out
      have hwt := read_weight' p ts hrd
      have hwl := weight_len ts
      have HG : Hid (∀ t ∈ ts, goodTm t) := Lib.hid hgood
      have HRD := Lib.hid hrd
      have HQ := Lib.hid (law_classOrder hpa hgood n)
      clear HD
      clear hrd hpa hgood
      have hwm : weight (ts.map revT) ≤ 2 * weight ts := weight_map revT 1 (fun t => by show (t.rs.reverse).length ≤ _; rw [List.length_reverse]; omega) ts
      have hql := writeA_len (ts.map revT)
      have HOK : Hid (∀ t ∈ ts.map revT, okNum t) := Lib.hid (fun t ht => by obtain ⟨u, hu, rfl⟩ := List.mem_map.1 ht; have h := good_ok (HG.out u hu); exact ⟨h.1, h.2.1, fun r hr => h.2.2 r (List.mem_reverse.1 hr)⟩)
      obtain ⟨Q, hQ⟩ : ∃ Q, Q = writeA (ts.map revT) := ⟨_, rfl⟩
      rw [← hQ] at hql HQ
      have HQE := Lib.hid hQ.symm
      clear hQ
      have HO := Lib.hid (TB.made (lo := w3.heap.size) w3 (Nat.le_refl _))
      have HEA := Lib.hid (HE3.out.alloc (.cells #[] 33))
      have HBA := Lib.hid (HB3.out.alloc HB3.out.size (.cells #[] 33))
      have hfd := fld0
      go_wp2_with fail
      refine (readB _ p _ rfl (by omega)).mono ?_
      rintro e w4 ⟨hb, va, vn, vc, rfl, hts⟩
      obtain ⟨rfl, htm⟩ := hts ts HRD.out
      have hs1 : w3.heap.size + 1 ≤ w4.heap.size := by have := hb.size; simpa using this
      have HT : Hid (TmsRd (w3.heap.size + 1) w4 (.slice va ts.length vc) ts) := Lib.hid (by simpa using htm)
      have HO1 := Lib.hid (HO.out.below hb)
      have HE4 := Lib.hid (HEA.out.on hb)
      have HB4 := Lib.hid (HBA.out.trans (hb.mono HBA.out.size))
      have HE0 := HE3
      have hsz := HB3.out.size
      generalize rdOk p = OK
      generalize rdSet p = ST
      clear hb HEA HBA hts htm HO HE3 HB3 HRD
      obtain ⟨i0, hi, hz0, hz1, hz2⟩ := info_parts infoT
      go_wp2
      go_loopw [5, 33] (fun o i wr => BuildRel (fun k => (ts.take k).map revT) ts.length w3.heap.size w4 o i wr) (fun _ i _ => ts.length - (intOf i).toNat)
      case atStart => exact ⟨0, [], rfl, by omega, HO1.out, fun j e => .inl (Option.some.inj (show some w3.heap.size = some j from e)).symm, World.grownBy.refl _ _⟩
      case round =>
        clear HO1
        obtain ⟨k, xs, rfl, hk, hO, hW, hGr⟩ := hrel
        have HO : Hid (TB w3.heap.size wr u5 xs ((ts.take k).map revT)) := Lib.hid hO
        have HW := Lib.hid hW
        have HGr := Lib.hid hGr
        have hg5 := hGr.size
        clear hO hW hGr
        by_cases hkl : k < ts.length
        · obtain ⟨t, htk⟩ : ∃ t, ts[k]? = some t := ⟨_, List.getElem?_eq_getElem hkl⟩
          obtain ⟨a', cap', e', _, hcells⟩ := HT.out
          obtain ⟨g, o, rv, rfl, hlo, hlt, d1, d2, d3, d4, hrg5⟩ := hcells k t htk
          injection e' with e1 e2 e3
          subst e1
          clear e2 e3 hcells
          have hng : some g ≠ some w3.heap.size := by intro e; injection e with e; omega
          have c1 := HGr.out.cell d1 hng
          have c2 := HGr.out.cell d2 hng
          have c3 := HGr.out.cell d3 hng
          have c4 := HGr.out.cell d4 hng
          have hrg := hrg5.grown HGr.out (fun k e => by injection e with e; omega)
          have HDI : Hid (t.rs ≠ [] → ∀ j, rv.ownBlock = some j → u5.ownBlock ≠ some j) := Lib.hid (fun hne j hj e => by have := hrg5.lt hne j hj; rcases HW.out j e with h | h <;> omega)
          have HN : Hid ((ts.take (k + 1)).map revT = (ts.take k).map revT ++ [revT t]) := Lib.hid (map_take_succ revT htk)
          have hxl : xs.length ≤ 1048576 := by have := HO.out.1; rw [List.length_map, List.length_take] at this; omega
          have HGT := Lib.hid (HG.out t (List.mem_of_getElem? htk))
          have hwtk := weight_at' htk
          have hrg0 := Lib.hid (hrg.low (Nat.zero_le _))
          have hgl : g < wr.heap.size := by omega
          clear d1 d2 d3 d4 hrg5 hng HG HT htk
          obtain ⟨j0, hj, hy0, hy1, hy2⟩ := info_parts infoR
          obtain ⟨ra, rcap, rfl, _⟩ := hrg
          obtain ⟨tk, tc, tn, trs⟩ := t
          simp only at c1 c2 c3 c4 hwtk HN hrg0
          obtain ⟨wo, hwo⟩ : ∃ x, x = wr := ⟨_, rfl⟩
          subst hwo
          have HDJ : Hid (∀ j, u5.ownBlock = some j → j < wo.heap.size) := Lib.hid (fun j e => (HO.out.2.1.lt j e).2)
          have HST : Hid (∀ iv, iv = .int .i64 ((trs.length : Int) - 1) → OrdRel trs (.cells #[.int .i64 (tk : Nat), .int .i32 (tc : Nat), .bool tn, .slice ra trs.length rcap] 33 (0, 0)) (tk : Nat) (tc : Nat) tn wo iv ((wo.alloc (.cells #[.int .i64 (tk : Nat), .int .i32 (tc : Nat), .bool tn, .slice ra trs.length rcap] 33)).alloc (.cells #[.int .i64 (tk : Nat), .int .i32 (tc : Nat), .bool tn, .slice none 0 0] 33))) := Lib.hid (fun iv h => ord_start iv h)
          clear HDI HGT
          go_wp2
          go_loopw [9] (fun i wv => OrdRel trs (.cells #[.int .i64 (tk : Nat), .int .i32 (tc : Nat), .bool tn, .slice ra trs.length rcap] 33 (0, 0)) (tk : Nat) (tc : Nat) tn wo i wv) (fun i _ => (intOf i + 1).toNat)
          case atStart => exact HST.out _ (by go_num)
          case round =>
            clear HST c1 c2 c3 c4
            obtain ⟨jj, v, x, rfl, hx, hjl, hT, hU, hOw, hb⟩ := hrel
            have hsU := lt_of_block hU
            obtain ⟨v0, v1, v2, v3, _, _, _, _⟩ := blk4 hU
            have y5 := frz4 hU 3
            have hTc := (blk4 hT).2.2.2.1
            have HBS := Lib.hid hb
            have HTT := Lib.hid hT
            have HUU := Lib.hid hU
            have HOO := Lib.hid hOw
            have HRW := Lib.hid (hrg0.out.below hb)
            clear hT hU hOw hb
            cases jj with
            | zero =>
              have hx0 : ¬ (0 : Int) ≤ x := by omega
              have hx1 : x < 0 := by omega
              have hOz : OwnR (wo.heap.size + 2) wr v (cst trs.reverse) := by have h := HOO.out; rw [Nat.sub_zero, List.take_of_length_le (by simp)] at h; exact h
              have HO4 : Hid (RgRd 0 wr v trs.reverse) := Lib.hid (OwnR.rd hOz)
              have HDV : Hid (trs.reverse ≠ [] → ∀ j, v.ownBlock = some j → u5.ownBlock ≠ some j) := Lib.hid (fun _ j hv e => by have h1 := HDJ.out j e; have h2 := (World.ownsRow.lt hOz j hv).1; omega)
              obtain ⟨va, vk, vc2, rfl⟩ : ∃ a k c, v = .slice a k c := by obtain ⟨a, c, e⟩ := OwnR.form hOz; exact ⟨a, _, c, e⟩
              clear hOz HOO HRW HTT HUU HDJ hTc
              have HBW : Hid (Below wo.heap.size wo (wr.alloc (.cells #[.int .i64 (tk : Nat), .int .i32 (tc : Nat), .bool tn, (.slice va vk vc2)] 33))) := Lib.hid (HBS.out.alloc (HBS.out.size) _)
              have HOW := Lib.hid (HO.out.below HBW.out)
              have hbig := HBW.out.size
              go_wp2_with (at_builtin; refine wpList_append_lies _ rfl _ _ 27 rfl w3.heap.size 33 i0 (.agg #[.int .i64 0, .int .i32 0, .bool false, .slice none 0 0]) 4 40 Tryd.underlying27 hi hz0 hz1 hz2 rfl (by decide) _ _ _ rfl HOW.out.2.1 ⟨wr.heap.size, 0, none⟩ 1 1 [.int .i64 (tk : Nat), .int .i32 (tc : Nat), .bool tn, (.slice va vk vc2)] rfl rfl ?cq10_1 ?cq10_2 (by decide) ?cq10_3 ?cq10_4 ?cq10_5 _ rfl ?_)
              try case cq10_1 => exact four_at _ _ (by simp) _ _ _ _ _
              try case cq10_2 => first | exact ⟨rfl, rfl, rfl, rfl⟩ | (intro u hu; simp at hu; rcases hu with rfl | rfl | rfl | rfl <;> rfl)
              try case cq10_3 => unfold maxLen; omega
              try case cq10_4 => omega
              try case cq10_5 => first | omega | (simp at hbig ⊢; omega)
              · intro g cap w4' hown' hgrow hat hlt4
                have HF := Lib.hid (BuildRel.step (us := fun k => (ts.take k).map revT) (n := ts.length) (k' := k + 1) HOW.out HW.out HGr.out HBW.out (x := ⟨_, _, _, _⟩) ⟨rfl, rfl, rfl, HO4.out.below ((Below.refl _ _).alloc (Nat.le_refl _) _)⟩ (HDV.out) hown' hgrow (by first | exact hat | (rcases hat with h | h; exact .inl h; exact .inr (by rw [h]; simp))) (by omega) HN.out)
                clear hown' hgrow hat hlt4 HOW HO HW HGr HN
                go_wp2
                go_roundw
                case rel => exact HF.out
                case measure => simp [intOf]; omega
            | succ m =>
              obtain rfl : x = (m : Int) := by omega
              have s1 : (m : Int) < (trs.length : Int) := by omega
              have s2 : (0 : Int) ≤ (m : Int) := by omega
              obtain ⟨r, hr⟩ : ∃ r, trs[m]? = some r := ⟨_, List.getElem?_eq_getElem (by omega)⟩
              obtain ⟨ra', rcap', e', _, hrc⟩ := HRW.out
              injection e' with e1 e2 e3
              subst e1 e3
              clear e2
              obtain ⟨gg, oo, rfl, _, hgg, b1, b2⟩ := hrc m r hr
              clear hrc
              obtain ⟨r1, r2⟩ := r
              simp only at b1 b2
              obtain ⟨N, hN⟩ : ∃ N, N = (cst (trs.reverse.take (trs.length - (m + 1)))).length := ⟨_, rfl⟩
              obtain ⟨X, hX⟩ : ∃ X, X = rcells (cst (trs.reverse.take (trs.length - (m + 1)))) := ⟨_, rfl⟩
              have hOw : wr.ownsRow (wo.heap.size + 2) 38 2 v N X := by have h := HOO.out; unfold OwnR at h; rw [← hN, ← hX] at h; exact h
              have HOWN := Lib.hid hOw
              have hNl : N ≤ trs.length := by rw [hN, List.length_map, List.length_take, List.length_reverse]; omega
              have HNB : Hid (some (wo.heap.size + 1) ≠ v.ownBlock) := Lib.hid (fun e => by have := (hOw.lt _ e.symm).1; omega)
              have HFU := Lib.hid y5
              have HCU := Lib.hid v3
              have HSTEP := Lib.hid (fun (g cap : Nat) (w4 : World) (o : Obj) hown hg => ord_step (w4 := w4) (g := g) (cap := cap) (o := o) hr hN hX HTT.out HUU.out hOw HBS.out hown hg)
              clear hOw hN hX hr HRW HOO HTT HUU HBS HDJ hx
              go_wp2_with fail
              go_region_law (first | (refine step_append_lies _ (by rfl) _ _ _ (by rfl) (wo.heap.size + 2) 38 j0 (.agg #[.int .i32 0, .int .i32 0]) 2 8 Tryd.underlying31 hj hy0 hy1 hy2 rfl (by decide) v N X (by rfl) ((HOWN.out.alloc _).drew) ⟨wr.heap.size, 0, none⟩ 1 1 [.int .i32 (r1 : Nat), .int .i32 (r2 : Nat)] (by rfl) (by rfl) (World.news_of_block (cs := #[.int .i32 (r1 : Nat), .int .i32 (r2 : Nat)]) (t := 38) (fr := (0, 0)) (heap_alloc_new wr _)) (two_one _ _) (by omega) (by unfold maxLen; omega) (by omega) (by simp; omega) (wr.heap.size + 1) (by simp) ?_; intro g4 cap4 w4' hown' hgrow hat hlt4; have hfz := frz_grow hgrow hsU HNB.out HFU.out; have hc4 := cell_grow hgrow hsU HNB.out HCU.out) | fail)
              all_goals
                have HF := Lib.hid (HSTEP.out _ _ _ _ hown' hgrow)
                clear hown' hgrow hat hlt4 HSTEP
                go_wp2
                go_roundw
                case rel => exact HF.out _ (by go_num)
                case measure => simp [intOf]
        · obtain rfl : k = ts.length := by omega
          have HR : Hid (TmsRd 0 wr u5 (ts.map revT)) := Lib.hid (by have := HO.out.rd; rw [List.take_length] at this; exact this)
          have HBR : Hid (Below w3.heap.size w4 wr) := Lib.hid (grown_below HGr.out (by omega) (fun k e => by injection e with e; omega))
          have HE5 := Lib.hid (HE0.out.from HE4.out HBR.out)
          have HB5 := Lib.hid (HB4.out.trans (HBR.out.mono hsz))
          obtain ⟨ua, uc, hu⟩ : ∃ ua uc, u5 = .slice ua ts.length uc := by
            obtain ⟨ua, uc, hu⟩ := HO.out.len
            exact ⟨ua, uc, by rw [hu]; simp⟩
          subst hu
          clear HO HW HGr HT HBR HE4 HB4 HE0
          obtain ⟨w5, hww⟩ : ∃ x, x = wr := ⟨_, rfl⟩
          subst hww
          go_wp2_with fail
          refine (writeAll_call 0 _ (ts.map revT) w5 HR.out (by omega) HOK.out).mono ?_
          rintro e w6 ⟨rfl, hb⟩
          have HE6 := Lib.hid (HE5.out.on hb)
          have HB6 := Lib.hid (HB5.out.trans (hb.mono HB5.out.size))
          clear hb HE5 HB5
          rw [HQE.out]
          clear HQE HR HOK
          go_wp2_with fail
          refine (alikeB ae _ _ _ p Q n w6 HE6.out rfl rfl rfl (by omega) (by omega) (by omega)).mono ?_
          rintro e w7 ⟨rfl, hb⟩
          have HB7 := Lib.hid (HB6.out.trans (hb.mono HB6.out.size))
          clear hb HE6 HB6
          rw [HQ.out]
          clear HQ
          go_wp2
          go_ret
          exact ⟨rfl, HB7.out⟩




set_option maxRecDepth 100000 in
theorem lifted (os : Os) (started : os.Started) (H : Type) (enc : TypeId × Value → H) :
    ReturnsInHanded {} Tryd.checked os 4 .any (fun w args => (Rows.fnClassOrderSpec.pre enc Tryd.prog Tryd.f4 Rows.fnClassOrderRow.domain false w args ∧ laidMetH Tryd.prog Rows.fnClassOrderRow.laid w) ∧ sizedMet enc Tryd.prog Tryd.f4 (OpenSpec.ofChange Rows.fnClassOrderSpec) false w args) (Rows.fnClassOrderSpec.post enc Tryd.prog Tryd.f4 false true false false) := by
  refine returnsInHanded_of_change_and (C := Tryd.checked) (X := fun w _ => laidMetH Tryd.prog Rows.fnClassOrderRow.laid w) (fun _ _ _ hh h => h.of_heap hh) own started (by kernel_rfl) Tryd.func4
    (ChangeSpec.witness_shaped (enc := enc) (C := Tryd.checked) (os := os) (X := fun w _ => laidMetH Tryd.prog Rows.fnClassOrderRow.laid w) false (World.laidAll Tryd.prog os Rows.fnClassOrderRow.laid) #[.slice none 0 0] 8 (World.laidAll_os _ _ _)
      (World.shaped_of_ZipB (by kernel_rfl) (by kernel_rfl)) (by kernel_rfl) (by kernel_rfl) (by kernel_rfl)
      (by rw [MakeChecks.laidMetH_plain _ _ _ (by kernel_rfl)]; exact laidMet_laidAll _ (by kernel_rfl) (by kernel_rfl))) ?_
  intro W base args ds gs before hval0 hW hcnd hsz0 hL _
  have hval : ∀ (j : Nat) t v, Tryd.f4.params[j]? = some t → args[j]? = some v → Value.okWide Tryd.prog W .any base t v := hval0
  have hW' := hW
  obtain ⟨p, q, hA0, hV, rfl, hfz, hnd⟩ := hW
  have hA : DataW.TrodAll enc Tryd.prog W 0 (fun _ => true) true Tryd.f4.params.toList args.toList ds p := hA0
  rw [Tryd.params4] at hA hval
  obtain ⟨v0, vs0, d0, ds0, p0, q0, hargs, rfl, rfl, h0, r0⟩ := trodAll_cons hA
  obtain ⟨rfl, rfl, rfl⟩ := trodAll_nil r0
  obtain rfl : args = #[v0] := by cases args; simp_all
  obtain ⟨rfl, rfl⟩ := trodVars_none hV
  obtain ⟨a0, len0, cap0, rfl⟩ := okWide_slice Tryd.underlying22 (hval 0 22 v0 rfl rfl)
  have k0 := h0
  have lt0 : ∀ x ∈ p0, x.block < W.heap.size := by obtain ⟨m, hm⟩ := k0; exact DataW.trod_lt m _ _ _ hm
  obtain ⟨z0, w0⟩ : ∃ zs, IsRow .u8 W a0 len0 cap0 zs := by
    obtain ⟨fuel, hf⟩ := h0
    rcases open_ints Tryd.underlying22 Tryd.underlying5 (by kernel_rfl) hf with ⟨hcs, _⟩ | ⟨x, l, c, zs, hcs, _, hl, hm, hz, _, hcell, hwz⟩
    · simp [Value.cells] at hcs
      obtain ⟨rfl, rfl, rfl⟩ := hcs
      exact ⟨[], .inl ⟨rfl, rfl, rfl, rfl⟩⟩
    · simp [Value.cells] at hcs
      obtain ⟨rfl, rfl, rfl⟩ := hcs
      exact ⟨zs, .inr ⟨_, rfl, hl, hm, by simpa using hz, hcell, hwz⟩⟩
  obtain ⟨ae, hE⟩ := env_of hL
  clear hA0 hval0
  refine (walk a0 len0 cap0 z0 W w0 ae hE).mono fun e W' ⟨he, bel⟩ => ?_
  subst he
  exact ⟨_, rfl, _, _, _, [], _, [], hW', trodAll_mk1 (shut_bool Tryd.underlying4 _), (trodAll_cons_mk (Below.trod laidOut (by kernel_rfl) (of_decide_eq_true (by kernel_rfl)) k0 bel lt0) trodAll_mk0), rfl, bel.frame _, fun h => by cases h⟩

theorem over : Rows.fnClassOrderRow.holds Tryd.pinned (OpenSpec.ofChange Rows.fnClassOrderSpec) :=
  OpenClaim.holds_of_wide 4 Tryd.f4 rfl rfl rfl rfl rfl rfl rfl ⟨rfl, rfl, rfl, rfl, rfl⟩ rfl rfl rfl rfl rfl (by kernel_rfl) Tryd.func4 (by kernel_rfl)
    (of_decide_eq_true (by kernel_rfl)) (by unfold Func.isWrapper; first | (rw [if_pos (by decide +kernel)]; kernel_rfl) | (rw [if_neg (by decide +kernel)]; exact ⟨rfl, rfl⟩))
    (fun os started H enc _ => lifted os started H enc)

theorem proved : Rows.FnClassOrderCardSaid :=
  Claim7.holds_tied_plain_at .later [] Rows.fnClassOrderCard.laidKinds true Rows.fnClassOrderCard.stood.harness true over (fun _ h => by cases h) (by kernel_rfl) (fun _ h => by cases h) fnClassOrder_row_tie rfl ⟨rfl, rfl⟩ (by kernel_rfl) rfl
    (fun f fn hf hfn => by
      obtain rfl : f = 4 := Option.some.inj ((show Tryd.prog.funcNamed Rows.fnClassOrderRow.func = some 4 by kernel_rfl).symm.trans hf) |>.symm
      obtain rfl : fn = Tryd.f4 := (Option.some.inj (Tryd.func4.symm.trans hfn)).symm
      exact ⟨by kernel_rfl, fun j t ht => by
        rw [Tryd.params4] at ht
        have hm : t ∈ [22] := by simpa using Array.mem_of_getElem? ht
        have hall : ([22].all fun u => !Tryd.prog.wantsStandIn u) = true := by kernel_rfl
        exact (show Tryd.prog.wantsStandIn t = false by simpa using List.all_eq_true.1 hall t hm)⟩)
    (by kernel_rfl)
end Go.Proofs.YtlfppmhkgfhecaaDoor.fnClassOrder


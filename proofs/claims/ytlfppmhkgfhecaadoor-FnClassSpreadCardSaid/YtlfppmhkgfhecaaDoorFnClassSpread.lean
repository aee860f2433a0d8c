/-
  With the short ranges of its classes laid out character by character a pattern answers every name as before: the law returns true for every input and leaves it as it was. Conditions: none.
  The frame round the walk is the kit's own (proof-skeleton.mjs).
-/
import Derived.Test.YtlfppmhkgfhecaaDoorRows
import Derived.Test.YtlfppmhkgfhecaaDoorLawG
import Derived.Test.YtlfppmhkgfhecaaDoorTermH
import Derived.Test.YtlfppmhkgfhecaaDoorDrawM
import Derived.Deep.AppendLies
import Derived.Deep.RegionLaw
import Derived.Test.YtlfppmhkgfhecaaDoorTie
import Derived.Test.YtlfppmhkgfhecaaDoorCards
import Derived.Test.YtlfppmhkgfhecaaDoorLaid
import Derived.LaidMore
import Derived.Lay
import Derived.SevenTiedAt
import Derived.Stop.Joined
namespace Go.Proofs.YtlfppmhkgfhecaaDoor.fnClassSpread
open Go.ChangeShapes Go.WideShapes Go.ChangeAt Go.RowKit
open Go.ChangeMaps (open_string shut_string)
set_option linter.unusedVariables false

/-- The term that is built: the block behind T holds it; its ranges are L. -/
def SpRel (L : List (Nat × Nat)) (T : Obj) (k c : Int) (n : Bool) (wo W : World) (v : Value) : Prop :=
  W.heap[wo.heap.size]? = some T ∧ W.heap[wo.heap.size + 1]? = some (.cells #[.int .i64 k, .int .i32 c, .bool n, v] 33 (0, 0)) ∧
    OwnR (wo.heap.size + 2) W v (cst L) ∧ Below wo.heap.size wo W
theorem sp_start {T : Array Value} {t : TypeId} {k c : Int} {n : Bool} {wo : World} : SpRel [] (.cells T t (0, 0)) k c n wo ((wo.alloc (.cells T t)).alloc (.cells #[.int .i64 k, .int .i32 c, .bool n, .slice none 0 0] 33)) (.slice none 0 0) := by
  have e2 : (wo.alloc (.cells T t)).heap.size = wo.heap.size + 1 := by simp
  refine ⟨?_, ?_, ⟨rfl, .inl ⟨rfl, rfl⟩⟩, ((Below.refl wo.heap.size wo).alloc (Nat.le_refl _) _).alloc (by simp) _⟩
  · rw [(World.grownBy_alloc (wo.alloc (.cells T t)) _ none).block wo.heap.size (by simp) (by simp)]
    exact heap_alloc_new wo _
  · have := heap_alloc_new (wo.alloc (.cells T t)) (.cells #[.int .i64 k, .int .i32 c, .bool n, .slice none 0 0] 33)
    rw [e2] at this
    exact this
theorem SpRel.alloc {L : List (Nat × Nat)} {T : Obj} {k c : Int} {n : Bool} {wo W : World} {v : Value} (h : SpRel L T k c n wo W v) (o : Obj) : SpRel L T k c n wo (W.alloc o) v ∧ v.ownBlock ≠ some W.heap.size := by
  obtain ⟨hT, hU, hO, hB⟩ := h
  have hO' : W.ownsRow (wo.heap.size + 2) 38 2 v (cst L).length (rcells (cst L)) := hO
  refine ⟨⟨?_, ?_, hO'.alloc o, hB.alloc hB.size o⟩, fun e => by have := (hO'.lt _ e).2; omega⟩
  · rw [(World.grownBy_alloc W o none).block _ (lt_of_block hT) (by simp)]
    exact hT
  · rw [(World.grownBy_alloc W o none).block _ (lt_of_block hU) (by simp)]
    exact hU
theorem sp_step {L : List (Nat × Nat)} {T : Obj} {k c : Int} {n : Bool} {wo wr w4 : World} {v : Value} {g cap N : Nat} {a b : Nat} {o : Obj} {X : List Value} (hN : N = (cst L).length) (hX : X = rcells (cst L)) (h : SpRel L T k c n wo wr v)
    (hown : w4.ownsRow (wo.heap.size + 2) 38 2 (.slice (some ⟨g, 0, none⟩) (N + 1) cap) (N + 1) (X ++ [.int .i32 (a : Nat), .int .i32 (b : Nat)])) (hg : (wr.alloc o).grownBy w4 v.ownBlock) (hat : v.ownBlock = some g ∨ g = wr.heap.size + 1) :
    w4.heap[wo.heap.size + 1]? = some (.cells #[.int .i64 k, .int .i32 c, .bool n, v] 33 (0, 0)) ∧
    SpRel (L ++ [(a, b)]) T k c n wo (w4.setCell ⟨wo.heap.size + 1, 3, none⟩ (.slice (some ⟨g, 0, none⟩) (N + 1) cap)) (.slice (some ⟨g, 0, none⟩) (N + 1) cap) ∧
    ∀ (B : Nat) (O : Obj), wr.heap[B]? = some O → v.ownBlock ≠ some B → B ≠ wo.heap.size + 1 → (w4.setCell ⟨wo.heap.size + 1, 3, none⟩ (.slice (some ⟨g, 0, none⟩) (N + 1) cap)).heap[B]? = some O ∧ (Value.slice (some ⟨g, 0, none⟩) (N + 1) cap).ownBlock ≠ some B := by
  obtain ⟨hT, hU, hO1, hB⟩ := h
  subst hN hX
  have hO : wr.ownsRow (wo.heap.size + 2) 38 2 v (cst L).length (rcells (cst L)) := hO1
  have hG1 : wr.grownBy w4 v.ownBlock := ⟨hg.os, hg.tape, hg.output, by have h : (wr.alloc o).heap.size ≤ w4.heap.size := hg.size; simp at h; omega, fun q hq hqn => (hg.block q (by show q < (wr.alloc o).heap.size; simp; omega) hqn).trans ((World.grownBy_alloc wr o none).block q hq (by simp))⟩
  have hT4 := (hG1.block wo.heap.size (lt_of_block hT) (fun e => by have := (hO.lt _ e.symm).1; omega)).trans hT
  have hU4 := (hG1.block (wo.heap.size + 1) (lt_of_block hU) (fun e => by have := (hO.lt _ e.symm).1; omega)).trans hU
  have hgg := (hown.lt g rfl).1
  have hsg : w4.grownBy (w4.setCell ⟨wo.heap.size + 1, 3, none⟩ (.slice (some ⟨g, 0, none⟩) ((cst L).length + 1) cap)) (some (wo.heap.size + 1)) := grownBy_setCell w4 _ 3 _ 0
  have hk := World.ownsRow.kept hown hsg (.inr (fun e => by have e' : g = wo.heap.size + 1 := Option.some.inj e; omega))
  have hB4 := hB.grown hG1 hB.size (fun q e => by have := (hO.lt q e).1; omega)
  refine ⟨hU4, ⟨(set_else (by omega)).trans hT4, set3 hU4 _, ?_, hB4.grown hsg hB4.size (fun q e => by injection e with e; omega)⟩, fun B O hBO hne hne2 => ⟨(set_else hne2).trans ((hG1.block B (lt_of_block hBO) (fun e => hne e.symm)).trans hBO), fun e => ?_⟩⟩
  · have e2 : cst (L ++ [(a, b)]) = cst L ++ [(((a : Nat) : Int), ((b : Nat) : Int))] := by simp [cst]
    rw [e2]
    unfold OwnR
    have e3 : rcells (cst L ++ [(((a : Nat) : Int), ((b : Nat) : Int))]) = rcells (cst L) ++ [.int .i32 (a : Nat), .int .i32 (b : Nat)] := by simp [rcells]
    rw [e3, List.length_append]
    exact hk
  · have e' : g = B := Option.some.inj e
    have hlt := lt_of_block hBO
    rcases hat with h | h
    · exact hne (by rw [h, e'])
    · omega
theorem blk2 {w : World} {g : Nat} {a b : Value} {t : TypeId} (h : w.heap[g]? = some (.cells #[a, b] t (0, 0))) : w.cell? ⟨g, 0, none⟩ = some a ∧ w.cell? ⟨g, 1, none⟩ = some b := by
  simp [World.cell?, h]
theorem good_sc {t : Tm} (h : goodTm t) : ∀ r ∈ t.rs, r.1 ≤ 1114111 ∧ r.2 ≤ 1114111 := by
  rcases h with ⟨_, e⟩ | ⟨_, e⟩ | ⟨_, e, _, hr⟩ | ⟨_, e, _⟩
  · intro r hr
    rw [e] at hr
    cases hr
  · intro r hr
    rw [e] at hr
    cases hr
  · intro r h
    have := hr r h
    unfold sc at this
    omega
  · intro r hr
    rw [e] at hr
    cases hr
theorem frz4 {w : World} {g : Nat} {cs : Array Value} {t : TypeId} (h : w.heap[g]? = some (.cells cs t (0, 0))) (i : Nat) : w.frozen? ⟨g, i, none⟩ = false := by simp [World.frozen?, h]
set_option maxRecDepth 200000 in
set_option maxHeartbeats 100000000 in
theorem walk (a : Option Addr) (len cap : Nat) (zs : List Int) (w : World) (hr : IsRow .u8 w a len cap zs) (ae : Addr) (hE : Env ae w) :
    Calls Tryd.prog 5 #[.slice a len cap] w fun e w' => e = .returned (.bool true) ∧ Below w.heap.size w w' := by
  have HR := Lib.hid hr
  have HE := Lib.hid hE
  clear hr hE
  by_cases hlen : 1048576 < len
  · have hl' : (1048576 : Int) < len := by omega
    go_enter Tryd.func5, Tryd.ntmps5
    go_wp2
    go_ret
    exact ⟨rfl, Below.refl _ _⟩
  · have hl' : ¬ (1048576 : Int) < len := by omega
    go_enter Tryd.func5, Tryd.ntmps5
    go_wp2_with fail
    refine (drawMatch_any a len cap zs _ HR.out (by omega)).mono ?_
    rintro e w1 ⟨p, n, rfl, hpl, hnl, hb⟩
    have HE1 := Lib.hid (HE.out.on hb)
    have HB1 := Lib.hid hb
    clear hb HR HE
    go_wp2_with fail
    refine (yesStar ae w1 HE1.out).mono ?_
    rintro e w2 ⟨rfl, hb⟩
    have HE2 := Lib.hid (HE1.out.on hb)
    have HB2 := Lib.hid (HB1.out.trans (hb.mono HB1.out.size))
    clear hb HE1 HB1
    go_wp2_with fail
    refine (wellFormedB ae _ p w2 HE2.out rfl (by omega)).mono ?_
    rintro e w2b ⟨rfl, hb⟩
    have HE2b := Lib.hid (HE2.out.on hb)
    have HB2b := Lib.hid (HB2.out.trans (hb.mono HB2.out.size))
    clear hb HE2 HB2
    generalize hD : wfB p = D
    have HD := Lib.hid hD
    clear hD
    cases D with
    | false =>
      go_wp2
      go_ret
      exact ⟨rfl, HB2b.out⟩
    | true =>
     go_wp2_with fail
     refine (validB ae _ n w2b HE2b.out rfl (by omega)).mono ?_
     rintro e w3 ⟨rfl, hb⟩
     have HE3 := Lib.hid (HE2b.out.on hb)
     have HB3 := Lib.hid (HB2b.out.trans (hb.mono HB2b.out.size))
     clear hb HE2b HB2b
     generalize hV : Lib.validD n = V
     have HV := Lib.hid hV
     clear hV
     cases V with
     | false =>
      go_wp2
      go_ret
      exact ⟨rfl, HB3.out⟩
     | true =>
      obtain ⟨ts, hrd, hpa, hgood, _, _⟩ := wf_terms HD.out
      have hwt := read_weight' p ts hrd
      have hwl := weight_len ts
      have HG : Hid (∀ t ∈ ts, goodTm t) := Lib.hid hgood
      have HRD := Lib.hid hrd
      have HQ := Lib.hid (law_classSpread hpa hgood n)
      clear HD
      clear hrd hpa hgood
      have hwm : weight (ts.map spreadT) ≤ 22 * weight ts := weight_map spreadT 21 (fun t => by have := spread_len t.rs; show (t.rs.flatMap spreadR).length ≤ _; omega) ts
      have hql := writeA_len (ts.map spreadT)
      have HOK : Hid (∀ t ∈ ts.map spreadT, okNum t) := Lib.hid (fun t ht => by
        obtain ⟨u, hu, rfl⟩ := List.mem_map.1 ht
        have h := good_ok (HG.out u hu)
        have h2 := good_sc (HG.out u hu)
        refine ⟨h.1, h.2.1, fun r hr => ?_⟩
        obtain ⟨q, hq, hr⟩ := List.mem_flatMap.1 hr
        have h3 := h2 q hq
        unfold spreadR at hr
        split at hr
        · rename_i hs
          have hs' := of_decide_eq_true hs
          obtain ⟨i, hi, rfl⟩ := List.mem_map.1 hr
          have := List.mem_range.1 hi
          simp only
          omega
        · rw [List.mem_singleton] at hr
          subst hr
          omega)
      obtain ⟨Q, hQ⟩ : ∃ Q, Q = writeA (ts.map spreadT) := ⟨_, rfl⟩
      rw [← hQ] at hql HQ
      have HQE := Lib.hid hQ.symm
      clear hQ
      have HO := Lib.hid (TB.made (lo := w3.heap.size) w3 (Nat.le_refl _))
      have HEA := Lib.hid (HE3.out.alloc (.cells #[] 33))
      have HBA := Lib.hid (HB3.out.alloc HB3.out.size (.cells #[] 33))
      have hfd := fld0
      go_wp2_with fail
      refine (readB _ p _ rfl (by omega)).mono ?_
      rintro e w4 ⟨hb, va, vn, vc, rfl, hts⟩
      obtain ⟨rfl, htm⟩ := hts ts HRD.out
      have hs1 : w3.heap.size + 1 ≤ w4.heap.size := by have := hb.size; simpa using this
      have HT : Hid (TmsRd (w3.heap.size + 1) w4 (.slice va ts.length vc) ts) := Lib.hid (by simpa using htm)
      have HO1 := Lib.hid (HO.out.below hb)
      have HE4 := Lib.hid (HEA.out.on hb)
      have HB4 := Lib.hid (HBA.out.trans (hb.mono HBA.out.size))
      have HE0 := HE3
      have hsz := HB3.out.size
      generalize rdOk p = OK
      generalize rdSet p = ST
      clear hb HEA HBA hts htm HO HE3 HB3 HRD
      obtain ⟨i0, hi, hz0, hz1, hz2⟩ := info_parts infoT
      go_wp2
      go_loopw [5, 35] (fun o i wr => BuildRel (fun k => (ts.take k).map spreadT) ts.length w3.heap.size w4 o i wr) (fun _ i _ => ts.length - (intOf i).toNat)
      case atStart => exact ⟨0, [], rfl, by omega, HO1.out, fun j e => .inl (Option.some.inj (show some w3.heap.size = some j from e)).symm, World.grownBy.refl _ _⟩
      case round =>
        clear HO1
        obtain ⟨k, xs, rfl, hk, hO, hW, hGr⟩ := hrel
        have HO : Hid (TB w3.heap.size wr u5 xs ((ts.take k).map spreadT)) := Lib.hid hO
        have HW := Lib.hid hW
        have HGr := Lib.hid hGr
        have hg5 := hGr.size
        clear hO hW hGr
        by_cases hkl : k < ts.length
        · obtain ⟨t, htk⟩ : ∃ t, ts[k]? = some t := ⟨_, List.getElem?_eq_getElem hkl⟩
          obtain ⟨a', cap', e', _, hcells⟩ := HT.out
          obtain ⟨g, o, rv, rfl, hlo, hlt, d1, d2, d3, d4, hrg5⟩ := hcells k t htk
          injection e' with e1 e2 e3
          subst e1
          clear e2 e3 hcells
          have hng : some g ≠ some w3.heap.size := by intro e; injection e with e; omega
          have c1 := HGr.out.cell d1 hng
          have c2 := HGr.out.cell d2 hng
          have c3 := HGr.out.cell d3 hng
          have c4 := HGr.out.cell d4 hng
          have hrg := hrg5.grown HGr.out (fun k e => by injection e with e; omega)
          have HDI : Hid (t.rs ≠ [] → ∀ j, rv.ownBlock = some j → u5.ownBlock ≠ some j) := Lib.hid (fun hne j hj e => by have := hrg5.lt hne j hj; rcases HW.out j e with h | h <;> omega)
          have HN : Hid ((ts.take (k + 1)).map spreadT = (ts.take k).map spreadT ++ [spreadT t]) := Lib.hid (map_take_succ spreadT htk)
          have hxl : xs.length ≤ 1048576 := by have := HO.out.1; rw [List.length_map, List.length_take] at this; omega
          have HGT := Lib.hid (HG.out t (List.mem_of_getElem? htk))
          have hwtk := weight_at' htk
          have hrg0 := Lib.hid (hrg.low (Nat.zero_le _))
          have hgl : g < wr.heap.size := by omega
          clear d1 d2 d3 d4 hrg5 hng HG HT htk
          obtain ⟨j0, hj, hy0, hy1, hy2⟩ := info_parts infoR
          obtain ⟨ra, rcap, rfl, _⟩ := hrg
          have HG3 := Lib.hid (good_sc HGT.out)
          obtain ⟨tk, tc, tn, trs⟩ := t
          simp only at c1 c2 c3 c4 hwtk HN hrg0 HG3
          obtain ⟨wo, hwo⟩ : ∃ x, x = wr := ⟨_, rfl⟩
          subst hwo
          have HDJ : Hid (∀ j, u5.ownBlock = some j → j < wo.heap.size) := Lib.hid (fun j e => (HO.out.2.1.lt j e).2)
          have HST : Hid (SpRel [] (.cells #[.int .i64 (tk : Nat), .int .i32 (tc : Nat), .bool tn, .slice ra trs.length rcap] 33 (0, 0)) (tk : Nat) (tc : Nat) tn wo ((wo.alloc (.cells #[.int .i64 (tk : Nat), .int .i32 (tc : Nat), .bool tn, .slice ra trs.length rcap] 33)).alloc (.cells #[.int .i64 (tk : Nat), .int .i32 (tc : Nat), .bool tn, .slice none 0 0] 33)) (.slice none 0 0)) := Lib.hid sp_start
          clear HDI HGT
          go_wp2
          go_loopw [44] (fun i wv => ∃ (jj : Nat) (v : Value), i = .int .i64 (jj : Nat) ∧ jj ≤ trs.length ∧ SpRel ((trs.take jj).flatMap spreadR) (.cells #[.int .i64 (tk : Nat), .int .i32 (tc : Nat), .bool tn, .slice ra trs.length rcap] 33 (0, 0)) (tk : Nat) (tc : Nat) tn wo wv v) (fun i _ => trs.length - (intOf i).toNat)
          case atStart => exact ⟨0, _, rfl, Nat.zero_le _, HST.out⟩
          case round =>
            clear HST c1 c2 c3 c4
            obtain ⟨jj, v, rfl, hjl, hsp⟩ := hrel
            have hsU := lt_of_block hsp.2.1
            have HSP := Lib.hid hsp
            have HRW := Lib.hid (hrg0.out.below hsp.2.2.2)
            have HBS := Lib.hid hsp.2.2.2
            by_cases hjlt : jj < trs.length
            · have s1 : (jj : Int) < (trs.length : Int) := by omega
              have s2 : (0 : Int) ≤ (jj : Int) := by omega
              obtain ⟨r, hr⟩ : ∃ r, trs[jj]? = some r := ⟨_, List.getElem?_eq_getElem hjlt⟩
              obtain ⟨ra', rcap', e', _, hrc⟩ := HRW.out
              injection e' with e1 e2 e3
              subst e1 e3
              clear e2
              obtain ⟨gg, oo, rfl, _, hgg, b1, b2⟩ := hrc jj r hr
              obtain ⟨hb1, hb2⟩ := HG3.out r (List.mem_of_getElem? hr)
              clear hrc
              obtain ⟨r1, r2⟩ := r
              simp only at b1 b2 hb1 hb2
              have HTK : Hid ((trs.take (jj + 1)).flatMap spreadR = ((trs.take jj).flatMap spreadR) ++ spreadR (r1, r2)) := Lib.hid (by rw [List.take_add_one, hr]; simp)
              obtain ⟨SH, hSH⟩ : ∃ b, b = shortR (r1, r2) := ⟨_, rfl⟩
              have HSW : Hid (SH = false → spreadR (r1, r2) = [(r1, r2)]) := Lib.hid (fun h => by unfold spreadR; rw [← hSH, h]; rfl)
              have HSS : Hid (SH = true → spreadR (r1, r2) = (List.range (r2 - r1 + 1)).map fun i => (r1 + i, r1 + i)) := Lib.hid (fun h => by unfold spreadR; rw [← hSH, h]; rfl)
              unfold shortR at hSH
              simp only at hSH
              obtain ⟨wp, hwp⟩ : ∃ x, x = wr := ⟨_, rfl⟩
              subst hwp
              obtain ⟨hsq, hnv⟩ := hsp.alloc (.cells #[.int .i32 (r1 : Nat), .int .i32 (r2 : Nat)] 38)
              have hrb := heap_alloc_new wp (.cells #[.int .i32 (r1 : Nat), .int .i32 (r2 : Nat)] 38)
              clear hsp hr HRW HBS HDJ HG3 HSP
              go_upto_region 17 with (fail)
              generalize hwq : wp.alloc (.cells #[.int .i32 (r1 : Nat), .int .i32 (r2 : Nat)] 38) = wq at hsq hrb ⊢
              obtain ⟨v0, v1, v2, v3, _, _, _, _⟩ := blk4 hsq.2.1
              have y5 := frz4 hsq.2.1 3
              have hsQ := lt_of_block hsq.2.1
              obtain ⟨d0, d1⟩ := blk2 hrb
              have HSQ := Lib.hid hsq
              have HRB : Hid (wq.heap[wp.heap.size]? = some (.cells #[.int .i32 (r1 : Nat), .int .i32 (r2 : Nat)] 38 (0, 0))) := Lib.hid hrb
              have HNV := Lib.hid hnv
              have hw20 : IntKind.i32.wrap ((r1 : Int) + 20) = (r1 : Int) + 20 := by rw [IntKind.wrap_i32]; omega
              clear hsq hrb hnv hwq b1 b2
              by_cases a1 : r2 < r1
              · obtain rfl : SH = false := by rw [hSH]; exact decide_eq_false (by omega)
                have q1 : (r2 : Int) < (r1 : Int) := by omega
                clear hSH HSS
                have HLB : Hid ((cst ((trs.take jj).flatMap spreadR)).length ≤ 21 * trs.length + 21) := Lib.hid (by have h1 := spread_len (trs.take jj); have h2 : (trs.take jj).length ≤ trs.length := (by rw [List.length_take]; omega); rw [List.length_map]; omega)
                obtain ⟨N, hN⟩ : ∃ N, N = (cst ((trs.take jj).flatMap spreadR)).length := ⟨_, rfl⟩
                obtain ⟨X, hX⟩ : ∃ X, X = rcells (cst ((trs.take jj).flatMap spreadR)) := ⟨_, rfl⟩
                have hNl : N ≤ 21 * trs.length + 21 := by rw [hN]; exact HLB.out
                have hOw : wq.ownsRow (wo.heap.size + 2) 38 2 v N X := by have h := HSQ.out.2.2.1; unfold OwnR at h; rw [← hN, ← hX] at h; exact h
                have HOWN := Lib.hid (hOw.alloc (.cells #[.int .i32 (r1 : Nat), .int .i32 (r2 : Nat)] 38))
                have HSTEP := Lib.hid (fun (g cap : Nat) (w4 : World) (o : Obj) hown hg hat => sp_step (w4 := w4) (g := g) (cap := cap) (o := o) (a := r1) (b := r2) hN hX HSQ.out hown hg hat)
                have hbse : wo.heap.size + 2 ≤ wq.heap.size := lt_of_block HSQ.out.2.1
                clear hOw hN hX
                go_wp2_with (at_builtin; refine wpList_append_lies _ rfl _ _ 31 rfl (wo.heap.size + 2) 38 j0 (.agg #[.int .i32 0, .int .i32 0]) 2 8 Tryd.underlying31 hj hy0 hy1 hy2 rfl (by decide) _ N X rfl HOWN.out ⟨wq.heap.size, 0, none⟩ 1 1 [.int .i32 (r1 : Nat), .int .i32 (r2 : Nat)] rfl rfl ?cq21_1 ?cq21_2 (by decide) ?cq21_3 ?cq21_4 ?cq21_5 _ rfl ?_)
                try case cq21_1 => exact World.news_of_block (cs := #[.int .i32 (r1 : Nat), .int .i32 (r2 : Nat)]) (t := 38) (fr := (0, 0)) (heap_alloc_new wq _)
                try case cq21_2 => first | exact two_one _ _ | exact ⟨rfl, rfl⟩ | (intro u hu; simp at hu; rcases hu with rfl | rfl <;> rfl) | simp [Value.oneCell']
                try case cq21_3 => unfold maxLen; omega
                try case cq21_4 => omega
                try case cq21_5 => first | omega | (simp; omega)
                intro g4 cap4 w4' hown' hgrow hat hlt4
                obtain ⟨hu4, hsp5, hkp⟩ := HSTEP.out _ _ _ _ hown' hgrow (by first | exact hat | (rcases hat with h | h; exact .inl h; exact .inr (by rw [h]; simp)))
                have m3 := (blk4 hu4).2.2.2.1
                have n5 := frz4 hu4 3
                have HSP5 := Lib.hid hsp5
                have HKP := Lib.hid hkp
                clear hown' hgrow hat hlt4 HSTEP hu4 hsp5 hkp HOWN
                go_wp2
                go_roundw
                case rel => exact ⟨jj + 1, _, by go_num, by omega, by have h := HSP5.out; rw [HTK.out, HSW.out (by first | rfl | trivial)]; exact h⟩
                case measure => simp [intOf]; omega
              · have q1 : ¬ (r2 : Int) < (r1 : Int) := by omega
                by_cases a2 : r1 + 20 < r2
                · obtain rfl : SH = false := by rw [hSH]; exact decide_eq_false (by omega)
                  have q2 : (r1 : Int) + 20 < (r2 : Int) := by omega
                  clear hSH HSS
                  have HLB : Hid ((cst ((trs.take jj).flatMap spreadR)).length ≤ 21 * trs.length + 21) := Lib.hid (by have h1 := spread_len (trs.take jj); have h2 : (trs.take jj).length ≤ trs.length := (by rw [List.length_take]; omega); rw [List.length_map]; omega)
                  obtain ⟨N, hN⟩ : ∃ N, N = (cst ((trs.take jj).flatMap spreadR)).length := ⟨_, rfl⟩
                  obtain ⟨X, hX⟩ : ∃ X, X = rcells (cst ((trs.take jj).flatMap spreadR)) := ⟨_, rfl⟩
                  have hNl : N ≤ 21 * trs.length + 21 := by rw [hN]; exact HLB.out
                  have hOw : wq.ownsRow (wo.heap.size + 2) 38 2 v N X := by have h := HSQ.out.2.2.1; unfold OwnR at h; rw [← hN, ← hX] at h; exact h
                  have HOWN := Lib.hid (hOw.alloc (.cells #[.int .i32 (r1 : Nat), .int .i32 (r2 : Nat)] 38))
                  have HSTEP := Lib.hid (fun (g cap : Nat) (w4 : World) (o : Obj) hown hg hat => sp_step (w4 := w4) (g := g) (cap := cap) (o := o) (a := r1) (b := r2) hN hX HSQ.out hown hg hat)
                  have hbse : wo.heap.size + 2 ≤ wq.heap.size := lt_of_block HSQ.out.2.1
                  clear hOw hN hX
                  go_wp2_with (at_builtin; refine wpList_append_lies _ rfl _ _ 31 rfl (wo.heap.size + 2) 38 j0 (.agg #[.int .i32 0, .int .i32 0]) 2 8 Tryd.underlying31 hj hy0 hy1 hy2 rfl (by decide) _ N X rfl HOWN.out ⟨wq.heap.size, 0, none⟩ 1 1 [.int .i32 (r1 : Nat), .int .i32 (r2 : Nat)] rfl rfl ?cq22_1 ?cq22_2 (by decide) ?cq22_3 ?cq22_4 ?cq22_5 _ rfl ?_)
                  try case cq22_1 => exact World.news_of_block (cs := #[.int .i32 (r1 : Nat), .int .i32 (r2 : Nat)]) (t := 38) (fr := (0, 0)) (heap_alloc_new wq _)
                  try case cq22_2 => first | exact two_one _ _ | exact ⟨rfl, rfl⟩ | (intro u hu; simp at hu; rcases hu with rfl | rfl <;> rfl) | simp [Value.oneCell']
                  try case cq22_3 => unfold maxLen; omega
                  try case cq22_4 => omega
                  try case cq22_5 => first | omega | (simp; omega)
                  intro g4 cap4 w4' hown' hgrow hat hlt4
                  obtain ⟨hu4, hsp5, hkp⟩ := HSTEP.out _ _ _ _ hown' hgrow (by first | exact hat | (rcases hat with h | h; exact .inl h; exact .inr (by rw [h]; simp)))
                  have m3 := (blk4 hu4).2.2.2.1
                  have n5 := frz4 hu4 3
                  have HSP5 := Lib.hid hsp5
                  have HKP := Lib.hid hkp
                  clear hown' hgrow hat hlt4 HSTEP hu4 hsp5 hkp HOWN
                  go_wp2
                  go_roundw
                  case rel => exact ⟨jj + 1, _, by go_num, by omega, by have h := HSP5.out; rw [HTK.out, HSW.out (by first | rfl | trivial)]; exact h⟩
                  case measure => simp [intOf]; omega
                · have q2 : ¬ (r1 : Int) + 20 < (r2 : Int) := by omega
                  by_cases a3 : 55296 ≤ r2
                  · have q3 : (55296 : Int) ≤ (r2 : Int) := by omega
                    by_cases a4 : r1 ≤ 57343
                    · obtain rfl : SH = false := by rw [hSH]; exact decide_eq_false (by omega)
                      have q4 : (r1 : Int) ≤ 57343 := by omega
                      clear hSH HSS
                      have HLB : Hid ((cst ((trs.take jj).flatMap spreadR)).length ≤ 21 * trs.length + 21) := Lib.hid (by have h1 := spread_len (trs.take jj); have h2 : (trs.take jj).length ≤ trs.length := (by rw [List.length_take]; omega); rw [List.length_map]; omega)
                      obtain ⟨N, hN⟩ : ∃ N, N = (cst ((trs.take jj).flatMap spreadR)).length := ⟨_, rfl⟩
                      obtain ⟨X, hX⟩ : ∃ X, X = rcells (cst ((trs.take jj).flatMap spreadR)) := ⟨_, rfl⟩
                      have hNl : N ≤ 21 * trs.length + 21 := by rw [hN]; exact HLB.out
                      have hOw : wq.ownsRow (wo.heap.size + 2) 38 2 v N X := by have h := HSQ.out.2.2.1; unfold OwnR at h; rw [← hN, ← hX] at h; exact h
                      have HOWN := Lib.hid (hOw.alloc (.cells #[.int .i32 (r1 : Nat), .int .i32 (r2 : Nat)] 38))
                      have HSTEP := Lib.hid (fun (g cap : Nat) (w4 : World) (o : Obj) hown hg hat => sp_step (w4 := w4) (g := g) (cap := cap) (o := o) (a := r1) (b := r2) hN hX HSQ.out hown hg hat)
                      have hbse : wo.heap.size + 2 ≤ wq.heap.size := lt_of_block HSQ.out.2.1
                      clear hOw hN hX
                      go_wp2_with (at_builtin; refine wpList_append_lies _ rfl _ _ 31 rfl (wo.heap.size + 2) 38 j0 (.agg #[.int .i32 0, .int .i32 0]) 2 8 Tryd.underlying31 hj hy0 hy1 hy2 rfl (by decide) _ N X rfl HOWN.out ⟨wq.heap.size, 0, none⟩ 1 1 [.int .i32 (r1 : Nat), .int .i32 (r2 : Nat)] rfl rfl ?cq23_1 ?cq23_2 (by decide) ?cq23_3 ?cq23_4 ?cq23_5 _ rfl ?_)
                      try case cq23_1 => exact World.news_of_block (cs := #[.int .i32 (r1 : Nat), .int .i32 (r2 : Nat)]) (t := 38) (fr := (0, 0)) (heap_alloc_new wq _)
                      try case cq23_2 => first | exact two_one _ _ | exact ⟨rfl, rfl⟩ | (intro u hu; simp at hu; rcases hu with rfl | rfl <;> rfl) | simp [Value.oneCell']
                      try case cq23_3 => unfold maxLen; omega
                      try case cq23_4 => omega
                      try case cq23_5 => first | omega | (simp; omega)
                      intro g4 cap4 w4' hown' hgrow hat hlt4
                      obtain ⟨hu4, hsp5, hkp⟩ := HSTEP.out _ _ _ _ hown' hgrow (by first | exact hat | (rcases hat with h | h; exact .inl h; exact .inr (by rw [h]; simp)))
                      have m3 := (blk4 hu4).2.2.2.1
                      have n5 := frz4 hu4 3
                      have HSP5 := Lib.hid hsp5
                      have HKP := Lib.hid hkp
                      clear hown' hgrow hat hlt4 HSTEP hu4 hsp5 hkp HOWN
                      go_wp2
                      go_roundw
                      case rel => exact ⟨jj + 1, _, by go_num, by omega, by have h := HSP5.out; rw [HTK.out, HSW.out (by first | rfl | trivial)]; exact h⟩
                      case measure => simp [intOf]; omega
                    · obtain rfl : SH = true := by rw [hSH]; exact decide_eq_true (by omega)
                      have q4 : ¬ (r1 : Int) ≤ 57343 := by omega
                      clear hSH HSW
                      go_wp2
                      go_loopw [11] (fun i wv => ∃ (c : Nat) (v : Value), i = .int .i32 (c : Nat) ∧ r1 ≤ c ∧ c ≤ r2 + 1 ∧ SpRel (((trs.take jj).flatMap spreadR) ++ (List.range (c - r1)).map fun i => (r1 + i, r1 + i)) (.cells #[.int .i64 (tk : Nat), .int .i32 (tc : Nat), .bool tn, .slice (some ⟨gg, oo, none⟩) trs.length rcap] 33 (0, 0)) (tk : Nat) (tc : Nat) tn wo wv v ∧ wv.heap[wp.heap.size]? = some (.cells #[.int .i32 (r1 : Nat), .int .i32 (r2 : Nat)] 38 (0, 0)) ∧ v.ownBlock ≠ some wp.heap.size) (fun i _ => (((r2 : Nat) : Int) + 1 - intOf i).toNat)
                      case atStart => exact ⟨r1, v, rfl, Nat.le_refl _, by omega, by have h := HSQ.out; rw [Nat.sub_self]; simpa using h, HRB.out, HNV.out⟩
                      case round =>
                        clear v0 v1 v2 v3 y5 d0 d1
                        obtain ⟨c, v', rfl, hc1, hc2, hsp, hrb, hnv⟩ := hrel
                        obtain ⟨v0, v1, v2, v3, _, _, _, _⟩ := blk4 hsp.2.1
                        have y5 := frz4 hsp.2.1 3
                        have hsU' := lt_of_block hsp.2.1
                        obtain ⟨d0, d1⟩ := blk2 hrb
                        have HSC := Lib.hid hsp
                        have HRC := Lib.hid hrb
                        have HNC := Lib.hid hnv
                        clear hsp hrb hnv
                        by_cases hcl : c ≤ r2
                        · have p1 : (c : Int) ≤ (r2 : Int) := by omega
                          have HLB : Hid ((cst (((trs.take jj).flatMap spreadR) ++ (List.range (c - r1)).map fun i => (r1 + i, r1 + i))).length ≤ 21 * trs.length + 21) := Lib.hid (by have h1 := spread_len (trs.take jj); have h2 : (trs.take jj).length ≤ trs.length := (by rw [List.length_take]; omega); rw [List.length_map, List.length_append, List.length_map, List.length_range]; omega)
                          obtain ⟨N, hN⟩ : ∃ N, N = (cst (((trs.take jj).flatMap spreadR) ++ (List.range (c - r1)).map fun i => (r1 + i, r1 + i))).length := ⟨_, rfl⟩
                          obtain ⟨X, hX⟩ : ∃ X, X = rcells (cst (((trs.take jj).flatMap spreadR) ++ (List.range (c - r1)).map fun i => (r1 + i, r1 + i))) := ⟨_, rfl⟩
                          have hNl : N ≤ 21 * trs.length + 21 := by rw [hN]; exact HLB.out
                          have hOw : wr.ownsRow (wo.heap.size + 2) 38 2 v' N X := by have h := HSC.out.2.2.1; unfold OwnR at h; rw [← hN, ← hX] at h; exact h
                          have HOWN := Lib.hid (hOw.alloc (.cells #[.int .i32 (c : Nat), .int .i32 (c : Nat)] 38))
                          have HSTEP := Lib.hid (fun (g cap : Nat) (w4 : World) (o : Obj) hown hg hat => sp_step (w4 := w4) (g := g) (cap := cap) (o := o) (a := c) (b := c) hN hX HSC.out hown hg hat)
                          have hbse : wo.heap.size + 2 ≤ wr.heap.size := lt_of_block HSC.out.2.1
                          clear hOw hN hX
                          go_wp2_with (at_builtin; refine wpList_append_lies _ rfl _ _ 31 rfl (wo.heap.size + 2) 38 j0 (.agg #[.int .i32 0, .int .i32 0]) 2 8 Tryd.underlying31 hj hy0 hy1 hy2 rfl (by decide) _ N X rfl HOWN.out ⟨wr.heap.size, 0, none⟩ 1 1 [.int .i32 (c : Nat), .int .i32 (c : Nat)] rfl rfl ?cq24_1 ?cq24_2 (by decide) ?cq24_3 ?cq24_4 ?cq24_5 _ rfl ?_)
                          try case cq24_1 => exact World.news_of_block (cs := #[.int .i32 (c : Nat), .int .i32 (c : Nat)]) (t := 38) (fr := (0, 0)) (heap_alloc_new wr _)
                          try case cq24_2 => first | exact two_one _ _ | exact ⟨rfl, rfl⟩ | (intro u hu; simp at hu; rcases hu with rfl | rfl <;> rfl) | simp [Value.oneCell']
                          try case cq24_3 => unfold maxLen; omega
                          try case cq24_4 => omega
                          try case cq24_5 => first | omega | (simp; omega)
                          intro g4 cap4 w4' hown' hgrow hat hlt4
                          obtain ⟨hu4, hsp5, hkp⟩ := HSTEP.out _ _ _ _ hown' hgrow (by first | exact hat | (rcases hat with h | h; exact .inl h; exact .inr (by rw [h]; simp)))
                          have m3 := (blk4 hu4).2.2.2.1
                          have n5 := frz4 hu4 3
                          have HSP5 := Lib.hid hsp5
                          have HKP := Lib.hid hkp
                          clear hown' hgrow hat hlt4 HSTEP hu4 hsp5 hkp HOWN
                          have hpr := HKP.out _ _ HRC.out HNC.out (by omega)
                          have HPR := Lib.hid hpr
                          clear hpr HKP
                          go_wp2
                          go_roundw
                          case rel => exact ⟨c + 1, _, by go_num, by omega, by omega, by have h := HSP5.out; rw [List.append_assoc] at h; rw [show c + 1 - r1 = (c - r1) + 1 by omega, List.range_succ, List.map_append, List.map_singleton, show r1 + (c - r1) = c by omega]; exact h, HPR.out.1, HPR.out.2⟩
                          case measure => simp [intOf]; omega
                        · have p1 : ¬ (c : Int) ≤ (r2 : Int) := by omega
                          have HCE : Hid (c = r2 + 1) := Lib.hid (by omega)
                          have HC1 := Lib.hid hc1
                          clear q1 q2 q3 hc1 hc2 hcl hw20 hb1 hb2
                          go_wp2
                          go_roundw
                          case rel => exact ⟨jj + 1, _, by go_num, by omega, by have hc1 := HC1.out; have hce := HCE.out; have h := HSC.out; rw [HTK.out, HSS.out (by first | rfl | trivial), show r2 - r1 + 1 = c - r1 by omega]; exact h⟩
                          case measure => simp [intOf]; omega
                  · obtain rfl : SH = true := by rw [hSH]; exact decide_eq_true (by omega)
                    have q3 : ¬ (55296 : Int) ≤ (r2 : Int) := by omega
                    clear hSH HSW
                    go_wp2
                    go_loopw [11] (fun i wv => ∃ (c : Nat) (v : Value), i = .int .i32 (c : Nat) ∧ r1 ≤ c ∧ c ≤ r2 + 1 ∧ SpRel (((trs.take jj).flatMap spreadR) ++ (List.range (c - r1)).map fun i => (r1 + i, r1 + i)) (.cells #[.int .i64 (tk : Nat), .int .i32 (tc : Nat), .bool tn, .slice (some ⟨gg, oo, none⟩) trs.length rcap] 33 (0, 0)) (tk : Nat) (tc : Nat) tn wo wv v ∧ wv.heap[wp.heap.size]? = some (.cells #[.int .i32 (r1 : Nat), .int .i32 (r2 : Nat)] 38 (0, 0)) ∧ v.ownBlock ≠ some wp.heap.size) (fun i _ => (((r2 : Nat) : Int) + 1 - intOf i).toNat)
                    case atStart => exact ⟨r1, v, rfl, Nat.le_refl _, by omega, by have h := HSQ.out; rw [Nat.sub_self]; simpa using h, HRB.out, HNV.out⟩
                    case round =>
                      clear v0 v1 v2 v3 y5 d0 d1
                      obtain ⟨c, v', rfl, hc1, hc2, hsp, hrb, hnv⟩ := hrel
                      obtain ⟨v0, v1, v2, v3, _, _, _, _⟩ := blk4 hsp.2.1
                      have y5 := frz4 hsp.2.1 3
                      have hsU' := lt_of_block hsp.2.1
                      obtain ⟨d0, d1⟩ := blk2 hrb
                      have HSC := Lib.hid hsp
                      have HRC := Lib.hid hrb
                      have HNC := Lib.hid hnv
                      clear hsp hrb hnv
                      by_cases hcl : c ≤ r2
                      · have p1 : (c : Int) ≤ (r2 : Int) := by omega
                        have HLB : Hid ((cst (((trs.take jj).flatMap spreadR) ++ (List.range (c - r1)).map fun i => (r1 + i, r1 + i))).length ≤ 21 * trs.length + 21) := Lib.hid (by have h1 := spread_len (trs.take jj); have h2 : (trs.take jj).length ≤ trs.length := (by rw [List.length_take]; omega); rw [List.length_map, List.length_append, List.length_map, List.length_range]; omega)
                        obtain ⟨N, hN⟩ : ∃ N, N = (cst (((trs.take jj).flatMap spreadR) ++ (List.range (c - r1)).map fun i => (r1 + i, r1 + i))).length := ⟨_, rfl⟩
                        obtain ⟨X, hX⟩ : ∃ X, X = rcells (cst (((trs.take jj).flatMap spreadR) ++ (List.range (c - r1)).map fun i => (r1 + i, r1 + i))) := ⟨_, rfl⟩
                        have hNl : N ≤ 21 * trs.length + 21 := by rw [hN]; exact HLB.out
                        have hOw : wr.ownsRow (wo.heap.size + 2) 38 2 v' N X := by have h := HSC.out.2.2.1; unfold OwnR at h; rw [← hN, ← hX] at h; exact h
                        have HOWN := Lib.hid (hOw.alloc (.cells #[.int .i32 (c : Nat), .int .i32 (c : Nat)] 38))
                        have HSTEP := Lib.hid (fun (g cap : Nat) (w4 : World) (o : Obj) hown hg hat => sp_step (w4 := w4) (g := g) (cap := cap) (o := o) (a := c) (b := c) hN hX HSC.out hown hg hat)
                        have hbse : wo.heap.size + 2 ≤ wr.heap.size := lt_of_block HSC.out.2.1
                        clear hOw hN hX
                        go_wp2_with (at_builtin; refine wpList_append_lies _ rfl _ _ 31 rfl (wo.heap.size + 2) 38 j0 (.agg #[.int .i32 0, .int .i32 0]) 2 8 Tryd.underlying31 hj hy0 hy1 hy2 rfl (by decide) _ N X rfl HOWN.out ⟨wr.heap.size, 0, none⟩ 1 1 [.int .i32 (c : Nat), .int .i32 (c : Nat)] rfl rfl ?cq25_1 ?cq25_2 (by decide) ?cq25_3 ?cq25_4 ?cq25_5 _ rfl ?_)
                        try case cq25_1 => exact World.news_of_block (cs := #[.int .i32 (c : Nat), .int .i32 (c : Nat)]) (t := 38) (fr := (0, 0)) (heap_alloc_new wr _)
                        try case cq25_2 => first | exact two_one _ _ | exact ⟨rfl, rfl⟩ | (intro u hu; simp at hu; rcases hu with rfl | rfl <;> rfl) | simp [Value.oneCell']
                        try case cq25_3 => unfold maxLen; omega
                        try case cq25_4 => omega
                        try case cq25_5 => first | omega | (simp; omega)
                        intro g4 cap4 w4' hown' hgrow hat hlt4
                        obtain ⟨hu4, hsp5, hkp⟩ := HSTEP.out _ _ _ _ hown' hgrow (by first | exact hat | (rcases hat with h | h; exact .inl h; exact .inr (by rw [h]; simp)))
                        have m3 := (blk4 hu4).2.2.2.1
                        have n5 := frz4 hu4 3
                        have HSP5 := Lib.hid hsp5
                        have HKP := Lib.hid hkp
                        clear hown' hgrow hat hlt4 HSTEP hu4 hsp5 hkp HOWN
                        have hpr := HKP.out _ _ HRC.out HNC.out (by omega)
                        have HPR := Lib.hid hpr
                        clear hpr HKP
                        go_wp2
                        go_roundw
                        case rel => exact ⟨c + 1, _, by go_num, by omega, by omega, by have h := HSP5.out; rw [List.append_assoc] at h; rw [show c + 1 - r1 = (c - r1) + 1 by omega, List.range_succ, List.map_append, List.map_singleton, show r1 + (c - r1) = c by omega]; exact h, HPR.out.1, HPR.out.2⟩
                        case measure => simp [intOf]; omega
                      · have p1 : ¬ (c : Int) ≤ (r2 : Int) := by omega
                        have HCE : Hid (c = r2 + 1) := Lib.hid (by omega)
                        have HC1 := Lib.hid hc1
                        clear q1 q2 q3 hc1 hc2 hcl hw20 hb1 hb2
                        go_wp2
                        go_roundw
                        case rel => exact ⟨jj + 1, _, by go_num, by omega, by have hc1 := HC1.out; have hce := HCE.out; have h := HSC.out; rw [HTK.out, HSS.out (by first | rfl | trivial), show r2 - r1 + 1 = c - r1 by omega]; exact h⟩
                        case measure => simp [intOf]; omega
            · obtain rfl : jj = trs.length := by omega
              have s1 : ¬ (trs.length : Int) < (trs.length : Int) := by omega
              have hOz : OwnR (wo.heap.size + 2) wr v (cst (trs.flatMap spreadR)) := by have h := hsp.2.2.1; rw [List.take_of_length_le (Nat.le_refl _)] at h; exact h
              have HO4 : Hid (RgRd 0 wr v (trs.flatMap spreadR)) := Lib.hid (OwnR.rd hOz)
              have HDV : Hid (trs.flatMap spreadR ≠ [] → ∀ j, v.ownBlock = some j → u5.ownBlock ≠ some j) := Lib.hid (fun _ j hv e => by have h1 := HDJ.out j e; have h2 := (World.ownsRow.lt hOz j hv).1; omega)
              obtain ⟨va, vk, vc2, rfl⟩ : ∃ a k c, v = .slice a k c := by obtain ⟨a, c, e⟩ := OwnR.form hOz; exact ⟨a, _, c, e⟩
              obtain ⟨v0, v1, v2, v3, _, _, _, _⟩ := blk4 hsp.2.1
              have y5 := frz4 hsp.2.1 3
              clear hOz HRW HDJ HSP hsp HG3
              have HBW : Hid (Below wo.heap.size wo (wr.alloc (.cells #[.int .i64 (tk : Nat), .int .i32 (tc : Nat), .bool tn, (.slice va vk vc2)] 33))) := Lib.hid (HBS.out.alloc (HBS.out.size) _)
              have HOW := Lib.hid (HO.out.below HBW.out)
              have hbig := HBW.out.size
              go_wp2_with (at_builtin; refine wpList_append_lies _ rfl _ _ 27 rfl w3.heap.size 33 i0 (.agg #[.int .i64 0, .int .i32 0, .bool false, .slice none 0 0]) 4 40 Tryd.underlying27 hi hz0 hz1 hz2 rfl (by decide) _ _ _ rfl HOW.out.2.1 ⟨wr.heap.size, 0, none⟩ 1 1 [.int .i64 (tk : Nat), .int .i32 (tc : Nat), .bool tn, (.slice va vk vc2)] rfl rfl ?cq26_1 ?cq26_2 (by decide) ?cq26_3 ?cq26_4 ?cq26_5 _ rfl ?_)
              try case cq26_1 => exact four_at _ _ (by simp) _ _ _ _ _
              try case cq26_2 => first | exact ⟨rfl, rfl, rfl, rfl⟩ | (intro u hu; simp at hu; rcases hu with rfl | rfl | rfl | rfl <;> rfl)
              try case cq26_3 => unfold maxLen; omega
              try case cq26_4 => omega
              try case cq26_5 => first | omega | (simp at hbig ⊢; omega)
              · intro g cap w4' hown' hgrow hat hlt4
                have HF := Lib.hid (BuildRel.step (us := fun k => (ts.take k).map spreadT) (n := ts.length) (k' := k + 1) HOW.out HW.out HGr.out HBW.out (x := ⟨_, _, _, _⟩) ⟨rfl, rfl, rfl, HO4.out.below ((Below.refl _ _).alloc (Nat.le_refl _) _)⟩ (HDV.out) hown' hgrow (by first | exact hat | (rcases hat with h | h; exact .inl h; exact .inr (by rw [h]; simp))) (by omega) HN.out)
                clear hown' hgrow hat hlt4 HOW HO HW HGr HN
                go_wp2
                go_roundw
                case rel => exact HF.out
                case measure => simp [intOf]; omega
        · obtain rfl : k = ts.length := by omega
          have HR : Hid (TmsRd 0 wr u5 (ts.map spreadT)) := Lib.hid (by have := HO.out.rd; rw [List.take_length] at this; exact this)
          have HBR : Hid (Below w3.heap.size w4 wr) := Lib.hid (grown_below HGr.out (by omega) (fun k e => by injection e with e; omega))
          have HE5 := Lib.hid (HE0.out.from HE4.out HBR.out)
          have HB5 := Lib.hid (HB4.out.trans (HBR.out.mono hsz))
          obtain ⟨ua, uc, hu⟩ : ∃ ua uc, u5 = .slice ua ts.length uc := by
            obtain ⟨ua, uc, hu⟩ := HO.out.len
            exact ⟨ua, uc, by rw [hu]; simp⟩
          subst hu
          clear HO HW HGr HT HBR HE4 HB4 HE0
          obtain ⟨w5, hww⟩ : ∃ x, x = wr := ⟨_, rfl⟩
          subst hww
          go_wp2_with fail
          refine (writeAll_call 0 _ (ts.map spreadT) w5 HR.out (by omega) HOK.out).mono ?_
          rintro e w6 ⟨rfl, hb⟩
          have HE6 := Lib.hid (HE5.out.on hb)
          have HB6 := Lib.hid (HB5.out.trans (hb.mono HB5.out.size))
          clear hb HE5 HB5
          rw [HQE.out]
          clear HQE HR HOK
          go_wp2_with fail
          refine (alikeB ae _ _ _ p Q n w6 HE6.out rfl rfl rfl (by omega) (by omega) (by omega)).mono ?_
          rintro e w7 ⟨rfl, hb⟩
          have HB7 := Lib.hid (HB6.out.trans (hb.mono HB6.out.size))
          clear hb HE6 HB6
          rw [HQ.out]
          clear HQ
          go_wp2
          go_ret
          exact ⟨rfl, HB7.out⟩





set_option maxRecDepth 100000 in
theorem lifted (os : Os) (started : os.Started) (H : Type) (enc : TypeId × Value → H) :
    ReturnsInHanded {} Tryd.checked os 5 .any (fun w args => (Rows.fnClassSpreadSpec.pre enc Tryd.prog Tryd.f5 Rows.fnClassSpreadRow.domain false w args ∧ laidMetH Tryd.prog Rows.fnClassSpreadRow.laid w) ∧ sizedMet enc Tryd.prog Tryd.f5 (OpenSpec.ofChange Rows.fnClassSpreadSpec) false w args) (Rows.fnClassSpreadSpec.post enc Tryd.prog Tryd.f5 false true false false) := by
  refine returnsInHanded_of_change_and (C := Tryd.checked) (X := fun w _ => laidMetH Tryd.prog Rows.fnClassSpreadRow.laid w) (fun _ _ _ hh h => h.of_heap hh) own started (by kernel_rfl) Tryd.func5
    (ChangeSpec.witness_shaped (enc := enc) (C := Tryd.checked) (os := os) (X := fun w _ => laidMetH Tryd.prog Rows.fnClassSpreadRow.laid w) false (World.laidAll Tryd.prog os Rows.fnClassSpreadRow.laid) #[.slice none 0 0] 8 (World.laidAll_os _ _ _)
      (World.shaped_of_ZipB (by kernel_rfl) (by kernel_rfl)) (by kernel_rfl) (by kernel_rfl) (by kernel_rfl)
      (by rw [MakeChecks.laidMetH_plain _ _ _ (by kernel_rfl)]; exact laidMet_laidAll _ (by kernel_rfl) (by kernel_rfl))) ?_
  intro W base args ds gs before hval0 hW hcnd hsz0 hL _
  have hval : ∀ (j : Nat) t v, Tryd.f5.params[j]? = some t → args[j]? = some v → Value.okWide Tryd.prog W .any base t v := hval0
  have hW' := hW
  obtain ⟨p, q, hA0, hV, rfl, hfz, hnd⟩ := hW
  have hA : DataW.TrodAll enc Tryd.prog W 0 (fun _ => true) true Tryd.f5.params.toList args.toList ds p := hA0
  rw [Tryd.params5] at hA hval
  obtain ⟨v0, vs0, d0, ds0, p0, q0, hargs, rfl, rfl, h0, r0⟩ := trodAll_cons hA
  obtain ⟨rfl, rfl, rfl⟩ := trodAll_nil r0
  obtain rfl : args = #[v0] := by cases args; simp_all
  obtain ⟨rfl, rfl⟩ := trodVars_none hV
  obtain ⟨a0, len0, cap0, rfl⟩ := okWide_slice Tryd.underlying22 (hval 0 22 v0 rfl rfl)
  have k0 := h0
  have lt0 : ∀ x ∈ p0, x.block < W.heap.size := by obtain ⟨m, hm⟩ := k0; exact DataW.trod_lt m _ _ _ hm
  obtain ⟨z0, w0⟩ : ∃ zs, IsRow .u8 W a0 len0 cap0 zs := by
    obtain ⟨fuel, hf⟩ := h0
    rcases open_ints Tryd.underlying22 Tryd.underlying5 (by kernel_rfl) hf with ⟨hcs, _⟩ | ⟨x, l, c, zs, hcs, _, hl, hm, hz, _, hcell, hwz⟩
    · simp [Value.cells] at hcs
      obtain ⟨rfl, rfl, rfl⟩ := hcs
      exact ⟨[], .inl ⟨rfl, rfl, rfl, rfl⟩⟩
    · simp [Value.cells] at hcs
      obtain ⟨rfl, rfl, rfl⟩ := hcs
      exact ⟨zs, .inr ⟨_, rfl, hl, hm, by simpa using hz, hcell, hwz⟩⟩
  obtain ⟨ae, hE⟩ := env_of hL
  clear hA0 hval0
  refine (walk a0 len0 cap0 z0 W w0 ae hE).mono fun e W' ⟨he, bel⟩ => ?_
  subst he
  exact ⟨_, rfl, _, _, _, [], _, [], hW', trodAll_mk1 (shut_bool Tryd.underlying4 _), (trodAll_cons_mk (Below.trod laidOut (by kernel_rfl) (of_decide_eq_true (by kernel_rfl)) k0 bel lt0) trodAll_mk0), rfl, bel.frame _, fun h => by cases h⟩

theorem over : Rows.fnClassSpreadRow.holds Tryd.pinned (OpenSpec.ofChange Rows.fnClassSpreadSpec) :=
  OpenClaim.holds_of_wide 5 Tryd.f5 rfl rfl rfl rfl rfl rfl rfl ⟨rfl, rfl, rfl, rfl, rfl⟩ rfl rfl rfl rfl rfl (by kernel_rfl) Tryd.func5 (by kernel_rfl)
    (of_decide_eq_true (by kernel_rfl)) (by unfold Func.isWrapper; first | (rw [if_pos (by decide +kernel)]; kernel_rfl) | (rw [if_neg (by decide +kernel)]; exact ⟨rfl, rfl⟩))
    (fun os started H enc _ => lifted os started H enc)

theorem proved : Rows.FnClassSpreadCardSaid :=
  Claim7.holds_tied_plain_at .later [] Rows.fnClassSpreadCard.laidKinds true Rows.fnClassSpreadCard.stood.harness true over (fun _ h => by cases h) (by kernel_rfl) (fun _ h => by cases h) fnClassSpread_row_tie rfl ⟨rfl, rfl⟩ (by kernel_rfl) rfl
    (fun f fn hf hfn => by
      obtain rfl : f = 5 := Option.some.inj ((show Tryd.prog.funcNamed Rows.fnClassSpreadRow.func = some 5 by kernel_rfl).symm.trans hf) |>.symm
      obtain rfl : fn = Tryd.f5 := (Option.some.inj (Tryd.func5.symm.trans hfn)).symm
      exact ⟨by kernel_rfl, fun j t ht => by
        rw [Tryd.params5] at ht
        have hm : t ∈ [22] := by simpa using Array.mem_of_getElem? ht
        have hall : ([22].all fun u => !Tryd.prog.wantsStandIn u) = true := by kernel_rfl
        exact (show Tryd.prog.wantsStandIn t = false by simpa using List.all_eq_true.1 hall t hm)⟩)
    (by kernel_rfl)
end Go.Proofs.YtlfppmhkgfhecaaDoor.fnClassSpread


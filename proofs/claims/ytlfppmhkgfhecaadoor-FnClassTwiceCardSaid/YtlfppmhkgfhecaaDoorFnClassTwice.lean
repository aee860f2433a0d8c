/-
  With each range of its classes twice a pattern answers every name as before: the law returns true for every input and leaves it as it was. Conditions: none.
  The frame round the walk is the kit's own (proof-skeleton.mjs).
-/
import Derived.Test.YtlfppmhkgfhecaaDoorRows
import Derived.Test.YtlfppmhkgfhecaaDoorLawG
import Derived.Test.YtlfppmhkgfhecaaDoorTermH
import Derived.Test.YtlfppmhkgfhecaaDoorDrawM
import Derived.Deep.AppendLies
import Derived.Deep.RegionLaw
import Derived.Test.YtlfppmhkgfhecaaDoorTie
import Derived.Test.YtlfppmhkgfhecaaDoorCards
import Derived.Test.YtlfppmhkgfhecaaDoorLaid
import Derived.LaidMore
import Derived.Lay
import Derived.SevenTiedAt
import Derived.Stop.Joined
namespace Go.Proofs.YtlfppmhkgfhecaaDoor.fnClassTwice
open Go.ChangeShapes Go.WideShapes Go.ChangeAt Go.RowKit
open Go.ChangeMaps (open_string shut_string)
set_option linter.unusedVariables false

theorem three_grown {wr w4 w5 : World} {T U E : Obj} {g1 : Nat} (h1 : ((((wr.alloc T).alloc U).alloc E).drew).grownBy w4 (some (wr.heap.size + 2))) (h3 : w4.grownBy w5 (some g1)) (hg : wr.heap.size + 2 ≤ g1) : w5.heap[wr.heap.size + 1]? = some U ∧ Below wr.heap.size wr w5 ∧ wr.heap.size + 3 ≤ w5.heap.size := by
  have s1 := h1.size
  have s3 := h3.size
  have e1 : ((((wr.alloc T).alloc U).alloc E).drew).heap.size = wr.heap.size + 3 := by show (((wr.alloc T).alloc U).alloc E).heap.size = _; simp
  have e2 : (wr.alloc T).heap.size = wr.heap.size + 1 := by simp
  have b0 : Below wr.heap.size wr ((((wr.alloc T).alloc U).alloc E).drew) := by
    have h := (((Below.refl wr.heap.size wr).alloc (Nat.le_refl _) T).alloc (by simp) U).alloc (by simp; omega) E
    exact ⟨h.os, h.tape, h.output, h.size, h.block⟩
  have b1 := b0.grown h1 b0.size (fun k e => by injection e with e; omega)
  have b2 := b1.grown h3 b1.size (fun k e => by injection e with e; omega)
  refine ⟨?_, b2, by omega⟩
  rw [h3.block (wr.heap.size + 1) (by omega) (by intro e; injection e with e; omega), h1.block (wr.heap.size + 1) (by omega) (by simp)]
  show (((wr.alloc T).alloc U).alloc E).heap[wr.heap.size + 1]? = _
  rw [((World.grownBy_alloc ((wr.alloc T).alloc U) E none).block (wr.heap.size + 1) (by simp) (by simp))]
  have := heap_alloc_new (wr.alloc T) U
  rw [e2] at this
  exact this
theorem twoE_lift {P : World → Prop} (wr : World) (T U E : Obj) (h : ∀ WS : World, WS.heap[wr.heap.size + 1]? = some U → Below wr.heap.size wr WS → wr.heap.size + 3 ≤ WS.heap.size → P WS) : P ((((wr.alloc T).alloc U).alloc E).drew) := by
  have e2 : (wr.alloc T).heap.size = wr.heap.size + 1 := by simp
  refine h _ ?_ ?_ ?_
  · show (((wr.alloc T).alloc U).alloc E).heap[wr.heap.size + 1]? = _
    rw [((World.grownBy_alloc ((wr.alloc T).alloc U) E none).block (wr.heap.size + 1) (by simp) (by simp))]
    have := heap_alloc_new (wr.alloc T) U
    rw [e2] at this
    exact this
  · have h := (((Below.refl wr.heap.size wr).alloc (Nat.le_refl _) T).alloc (by simp) U).alloc (by simp; omega) E
    exact ⟨h.os, h.tape, h.output, h.size, h.block⟩
  · show _ ≤ (((wr.alloc T).alloc U).alloc E).heap.size
    simp
theorem frz4 {w : World} {g : Nat} {cs : Array Value} {t : TypeId} (h : w.heap[g]? = some (.cells cs t (0, 0))) (i : Nat) : w.frozen? ⟨g, i, none⟩ = false := by simp [World.frozen?, h]
set_option maxHeartbeats 2000000 in
theorem walk (a : Option Addr) (len cap : Nat) (zs : List Int) (w : World) (hr : IsRow .u8 w a len cap zs) (ae : Addr) (hE : Env ae w) :
    Calls Tryd.prog 3 #[.slice a len cap] w fun e w' => e = .returned (.bool true) ∧ Below w.heap.size w w' := by
  have HR := Lib.hid hr
  have HE := Lib.hid hE
  clear hr hE
  by_cases hlen : 1048576 < len
  · have hl' : (1048576 : Int) < len := by omega
    go_enter Tryd.func3, Tryd.ntmps3
    go_wp2
    go_ret
    exact ⟨rfl, Below.refl _ _⟩
  · have hl' : ¬ (1048576 : Int) < len := by omega
    go_enter Tryd.func3, Tryd.ntmps3
    go_wp2_with fail
    refine (drawMatch_any a len cap zs _ HR.out (by omega)).mono ?_
    rintro e w1 ⟨p, n, rfl, hpl, hnl, hb⟩
    have HE1 := Lib.hid (HE.out.on hb)
    have HB1 := Lib.hid hb
    clear hb HR HE
    go_wp2_with fail
    refine (yesStar ae w1 HE1.out).mono ?_
    rintro e w2 ⟨rfl, hb⟩
    have HE2 := Lib.hid (HE1.out.on hb)
    have HB2 := Lib.hid (HB1.out.trans (hb.mono HB1.out.size))
    clear hb HE1 HB1
    go_wp2_with fail
    refine (wellFormedB ae _ p w2 HE2.out rfl (by omega)).mono ?_
    rintro e w2b ⟨rfl, hb⟩
    have HE2b := Lib.hid (HE2.out.on hb)
    have HB2b := Lib.hid (HB2.out.trans (hb.mono HB2.out.size))
    clear hb HE2 HB2
    generalize hD : wfB p = D
    have HD := Lib.hid hD
    clear hD
    cases D with
    | false =>
      go_wp2
      go_ret
      exact ⟨rfl, HB2b.out⟩
    | true =>
     go_wp2_with fail
     refine (validB ae _ n w2b HE2b.out rfl (by omega)).mono ?_
     rintro e w3 ⟨rfl, hb⟩
     have HE3 := Lib.hid (HE2b.out.on hb)
     have HB3 := Lib.hid (HB2b.out.trans (hb.mono HB2b.out.size))
     clear hb HE2b HB2b
     generalize hV : Lib.validD n = V
     have HV := Lib.hid hV
     clear hV
     cases V with
     | false =>
      go_wp2
      go_ret
      exact ⟨rfl, HB3.out⟩
     | true =>
      obtain ⟨ts, hrd, hpa, hgood, _, _⟩ := wf_terms HD.out
      have hwt := read_weight' p ts hrd
      have hwl := weight_len ts
      have HG : Hid (∀ t ∈ ts, goodTm t) := Lib.hid hgood
      have HRD := Lib.hid hrd
      have HQ := Lib.hid (law_classTwice hpa hgood n)
      clear HD
      clear hrd hpa hgood
      have hwm : weight (ts.map twiceT) ≤ 3 * weight ts := weight_map twiceT 2 (fun t => by show (t.rs ++ t.rs).length ≤ _; rw [List.length_append]; omega) ts
      have hql := writeA_len (ts.map twiceT)
      have HOK : Hid (∀ t ∈ ts.map twiceT, okNum t) := Lib.hid (fun t ht => by obtain ⟨u, hu, rfl⟩ := List.mem_map.1 ht; have h := good_ok (HG.out u hu); exact ⟨h.1, h.2.1, fun r hr => by rcases List.mem_append.1 hr with hr | hr <;> exact h.2.2 r hr⟩)
      obtain ⟨Q, hQ⟩ : ∃ Q, Q = writeA (ts.map twiceT) := ⟨_, rfl⟩
      rw [← hQ] at hql HQ
      have HQE := Lib.hid hQ.symm
      clear hQ
      have HO := Lib.hid (TB.made (lo := w3.heap.size) w3 (Nat.le_refl _))
      have HEA := Lib.hid (HE3.out.alloc (.cells #[] 33))
      have HBA := Lib.hid (HB3.out.alloc HB3.out.size (.cells #[] 33))
      have hfd := fld0
      go_wp2_with fail
      refine (readB _ p _ rfl (by omega)).mono ?_
      rintro e w4 ⟨hb, va, vn, vc, rfl, hts⟩
      obtain ⟨rfl, htm⟩ := hts ts HRD.out
      have hs1 : w3.heap.size + 1 ≤ w4.heap.size := by have := hb.size; simpa using this
      have HT : Hid (TmsRd (w3.heap.size + 1) w4 (.slice va ts.length vc) ts) := Lib.hid (by simpa using htm)
      have HO1 := Lib.hid (HO.out.below hb)
      have HE4 := Lib.hid (HEA.out.on hb)
      have HB4 := Lib.hid (HBA.out.trans (hb.mono HBA.out.size))
      have HE0 := HE3
      have hsz := HB3.out.size
      generalize rdOk p = OK
      generalize rdSet p = ST
      clear hb HEA HBA hts htm HO HE3 HB3 HRD
      obtain ⟨i0, hi, hz0, hz1, hz2⟩ := info_parts infoT
      go_wp2
      go_loopw [5, 32] (fun o i wr => BuildRel (fun k => (ts.take k).map twiceT) ts.length w3.heap.size w4 o i wr) (fun _ i _ => ts.length - (intOf i).toNat)
      case atStart => exact ⟨0, [], rfl, by omega, HO1.out, fun j e => .inl (Option.some.inj (show some w3.heap.size = some j from e)).symm, World.grownBy.refl _ _⟩
      case round =>
        clear HO1
        obtain ⟨k, xs, rfl, hk, hO, hW, hGr⟩ := hrel
        have HO : Hid (TB w3.heap.size wr u5 xs ((ts.take k).map twiceT)) := Lib.hid hO
        have HW := Lib.hid hW
        have HGr := Lib.hid hGr
        have hg5 := hGr.size
        clear hO hW hGr
        by_cases hkl : k < ts.length
        · obtain ⟨t, htk⟩ : ∃ t, ts[k]? = some t := ⟨_, List.getElem?_eq_getElem hkl⟩
          obtain ⟨a', cap', e', _, hcells⟩ := HT.out
          obtain ⟨g, o, rv, rfl, hlo, hlt, d1, d2, d3, d4, hrg5⟩ := hcells k t htk
          injection e' with e1 e2 e3
          subst e1
          clear e2 e3 hcells
          have hng : some g ≠ some w3.heap.size := by intro e; injection e with e; omega
          have c1 := HGr.out.cell d1 hng
          have c2 := HGr.out.cell d2 hng
          have c3 := HGr.out.cell d3 hng
          have c4 := HGr.out.cell d4 hng
          have hrg := hrg5.grown HGr.out (fun k e => by injection e with e; omega)
          have HDI : Hid (t.rs ≠ [] → ∀ j, rv.ownBlock = some j → u5.ownBlock ≠ some j) := Lib.hid (fun hne j hj e => by have := hrg5.lt hne j hj; rcases HW.out j e with h | h <;> omega)
          have HN : Hid ((ts.take (k + 1)).map twiceT = (ts.take k).map twiceT ++ [twiceT t]) := Lib.hid (map_take_succ twiceT htk)
          have hxl : xs.length ≤ 1048576 := by have := HO.out.1; rw [List.length_map, List.length_take] at this; omega
          have HGT := Lib.hid (HG.out t (List.mem_of_getElem? htk))
          have hwtk := weight_at' htk
          have hrg0 := Lib.hid (hrg.low (Nat.zero_le _))
          have hgl : g < wr.heap.size := by omega
          clear d1 d2 d3 d4 hrg5 hng HG HT htk
          obtain ⟨j0, hj, hy0, hy1, hy2⟩ := info_parts infoR
          have HN2 : Hid ((ts.take (k + 1)).map twiceT = (ts.take k).map twiceT ++ [twiceT t]) := HN
          by_cases hne : t.rs = []
          · obtain ⟨ra, rcap, rfl, _⟩ := hrg
            obtain ⟨tk, tc, tn, trs⟩ := t
            simp only at c1 c2 c3 c4 hwtk HN HDI hrg0 hne
            subst hne
            have hfs : (((wr.alloc (.cells #[.int .i64 (tk : Nat), .int .i32 (tc : Nat), .bool tn, .slice ra 0 rcap] 33)).alloc (.cells #[.int .i64 (tk : Nat), .int .i32 (tc : Nat), .bool tn, .slice ra 0 rcap] 33)).alloc (.cells #[] 38)).drew.heap[wr.heap.size + 1]? = some (.cells #[.int .i64 (tk : Nat), .int .i32 (tc : Nat), .bool tn, .slice ra 0 rcap] 33 (0, 0)) := by
              show (((wr.alloc (.cells #[.int .i64 (tk : Nat), .int .i32 (tc : Nat), .bool tn, .slice ra 0 rcap] 33)).alloc (.cells #[.int .i64 (tk : Nat), .int .i32 (tc : Nat), .bool tn, .slice ra 0 rcap] 33)).alloc (.cells #[] 38)).heap[wr.heap.size + 1]? = _
              rw [(World.grownBy_alloc ((wr.alloc (.cells #[.int .i64 (tk : Nat), .int .i32 (tc : Nat), .bool tn, .slice ra 0 rcap] 33)).alloc (.cells #[.int .i64 (tk : Nat), .int .i32 (tc : Nat), .bool tn, .slice ra 0 rcap] 33)) (.cells #[] 38) none).block (wr.heap.size + 1) (by simp) (by simp)]
              have h := heap_alloc_new (wr.alloc (.cells #[.int .i64 (tk : Nat), .int .i32 (tc : Nat), .bool tn, .slice ra 0 rcap] 33)) (.cells #[.int .i64 (tk : Nat), .int .i32 (tc : Nat), .bool tn, .slice ra 0 rcap] 33)
              have e2 : (wr.alloc (.cells #[.int .i64 (tk : Nat), .int .i32 (tc : Nat), .bool tn, .slice ra 0 rcap] 33)).heap.size = wr.heap.size + 1 := by simp
              rw [e2] at h
              exact h
            have hfs0 : (((wr.alloc (.cells #[.int .i64 (tk : Nat), .int .i32 (tc : Nat), .bool tn, .slice ra 0 rcap] 33)).alloc (.cells #[.int .i64 (tk : Nat), .int .i32 (tc : Nat), .bool tn, .slice ra 0 rcap] 33)).alloc (.cells #[] 38)).drew.heap[wr.heap.size]? = some (.cells #[.int .i64 (tk : Nat), .int .i32 (tc : Nat), .bool tn, .slice ra 0 rcap] 33 (0, 0)) := by
              show (((wr.alloc (.cells #[.int .i64 (tk : Nat), .int .i32 (tc : Nat), .bool tn, .slice ra 0 rcap] 33)).alloc (.cells #[.int .i64 (tk : Nat), .int .i32 (tc : Nat), .bool tn, .slice ra 0 rcap] 33)).alloc (.cells #[] 38)).heap[wr.heap.size]? = _
              rw [(World.grownBy_alloc ((wr.alloc (.cells #[.int .i64 (tk : Nat), .int .i32 (tc : Nat), .bool tn, .slice ra 0 rcap] 33)).alloc (.cells #[.int .i64 (tk : Nat), .int .i32 (tc : Nat), .bool tn, .slice ra 0 rcap] 33)) (.cells #[] 38) none).block wr.heap.size (by simp; omega) (by simp), (World.grownBy_alloc (wr.alloc (.cells #[.int .i64 (tk : Nat), .int .i32 (tc : Nat), .bool tn, .slice ra 0 rcap] 33)) (.cells #[.int .i64 (tk : Nat), .int .i32 (tc : Nat), .bool tn, .slice ra 0 rcap] 33) none).block wr.heap.size (by simp) (by simp)]
              exact heap_alloc_new wr _
            have hw0 := blk4 hfs
            have z5 := hw0.2.2.2.1
            have y5 := frz4 hfs 3
            have x5 := (blk4 hfs0).2.2.2.1
            have hbB : Below wr.heap.size wr (((wr.alloc (.cells #[.int .i64 (tk : Nat), .int .i32 (tc : Nat), .bool tn, .slice ra 0 rcap] 33)).alloc (.cells #[.int .i64 (tk : Nat), .int .i32 (tc : Nat), .bool tn, .slice ra 0 rcap] 33)).alloc (.cells #[] 38)).drew := by
              have h := (((Below.refl wr.heap.size wr).alloc (Nat.le_refl _) (.cells #[.int .i64 (tk : Nat), .int .i32 (tc : Nat), .bool tn, .slice ra 0 rcap] 33)).alloc (by simp) (.cells #[.int .i64 (tk : Nat), .int .i32 (tc : Nat), .bool tn, .slice ra 0 rcap] 33)).alloc (by simp; omega) (.cells #[] 38)
              exact ⟨h.os, h.tape, h.output, h.size, h.block⟩
            have hsE : (((wr.alloc (.cells #[.int .i64 (tk : Nat), .int .i32 (tc : Nat), .bool tn, .slice ra 0 rcap] 33)).alloc (.cells #[.int .i64 (tk : Nat), .int .i32 (tc : Nat), .bool tn, .slice ra 0 rcap] 33)).alloc (.cells #[] 38)).drew.heap.size = wr.heap.size + 3 := by show (((wr.alloc (.cells #[.int .i64 (tk : Nat), .int .i32 (tc : Nat), .bool tn, .slice ra 0 rcap] 33)).alloc (.cells #[.int .i64 (tk : Nat), .int .i32 (tc : Nat), .bool tn, .slice ra 0 rcap] 33)).alloc (.cells #[] 38)).heap.size = _; simp
            have HDJ : Hid (∀ j, u5.ownBlock = some j → j < wr.heap.size) := Lib.hid (fun j e => (HO.out.2.1.lt j e).2)
            obtain ⟨WE, hWE⟩ : ∃ WE, WE = (((wr.alloc (.cells #[.int .i64 (tk : Nat), .int .i32 (tc : Nat), .bool tn, .slice ra 0 rcap] 33)).alloc (.cells #[.int .i64 (tk : Nat), .int .i32 (tc : Nat), .bool tn, .slice ra 0 rcap] 33)).alloc (.cells #[] 38)).drew := ⟨_, rfl⟩
            have HWE := Lib.hid hWE
            have HBB := Lib.hid hbB
            have HDV : Hid (([] : List (Nat × Nat)) ++ [] ≠ [] → ∀ j, (Value.slice (some ⟨wr.heap.size + 2, 0, none⟩) 0 0).ownBlock = some j → u5.ownBlock ≠ some j) := Lib.hid (fun h => absurd rfl h)
            clear hrg0 hfs hfs0 hw0 hbB hWE
            cases ra
            all_goals
              go_wp2_with fail
              go_region_law (fail)
              all_goals
                refine twoE_lift (P := fun W => Exit.then _ _ _ _ W) wr _ _ _ ?_
                intro WS hfU hBU hsU
                obtain ⟨v0, v1, v2, v3, _, _, _, _⟩ := blk4 hfU
                have HBS := Lib.hid hBU
                have HO4 : Hid (RgRd 0 WS (.slice (some ⟨wr.heap.size + 1 + 1, 0, none⟩) 0 0) (([] : List (Nat × Nat)) ++ [])) := Lib.hid (⟨_, 0, rfl, by simp, fun j r hj => by simp at hj⟩)
                have HDV : Hid (([] : List (Nat × Nat)) ++ [] ≠ [] → ∀ j, (Value.slice (some ⟨wr.heap.size + 1 + 1, 0, none⟩) 0 0).ownBlock = some j → u5.ownBlock ≠ some j) := Lib.hid (fun h => absurd rfl h)
                clear z5 y5 x5 hsE HWE HBB hBU hfU c1 c2 c3 c4 HGT HDI
                have HBW : Hid (Below wr.heap.size wr (WS.alloc (.cells #[.int .i64 (tk : Nat), .int .i32 (tc : Nat), .bool tn, (.slice (some ⟨wr.heap.size + 1 + 1, 0, none⟩) 0 0)] 33))) := Lib.hid (HBS.out.alloc (HBS.out.size) _)
                have HOW := Lib.hid (HO.out.below HBW.out)
                have hbig := HBW.out.size
                go_wp2_with (at_builtin; refine wpList_append_lies _ rfl _ _ 27 rfl w3.heap.size 33 i0 (.agg #[.int .i64 0, .int .i32 0, .bool false, .slice none 0 0]) 4 40 Tryd.underlying27 hi hz0 hz1 hz2 rfl (by decide) _ _ _ rfl HOW.out.2.1 ⟨WS.heap.size, 0, none⟩ 1 1 [.int .i64 (tk : Nat), .int .i32 (tc : Nat), .bool tn, (.slice (some ⟨wr.heap.size + 1 + 1, 0, none⟩) 0 0)] rfl rfl ?cq10_1 ?cq10_2 (by decide) ?cq10_3 ?cq10_4 ?cq10_5 _ rfl ?_)
                try case cq10_1 => exact four_at _ _ (by simp) _ _ _ _ _
                try case cq10_2 => first | exact ⟨rfl, rfl, rfl, rfl⟩ | (intro u hu; simp at hu; rcases hu with rfl | rfl | rfl | rfl <;> rfl)
                try case cq10_3 => unfold maxLen; omega
                try case cq10_4 => omega
                try case cq10_5 => first | omega | (simp at hbig ⊢; omega)
                · intro g cap w4' hown' hgrow hat hlt4
                  have HF := Lib.hid (BuildRel.step (us := fun k => (ts.take k).map twiceT) (n := ts.length) (k' := k + 1) HOW.out HW.out HGr.out HBW.out (x := ⟨_, _, _, _⟩) ⟨rfl, rfl, rfl, HO4.out.below ((Below.refl _ _).alloc (Nat.le_refl _) _)⟩ (HDV.out) hown' hgrow (by first | exact hat | (rcases hat with h | h; exact .inl h; exact .inr (by rw [h]; simp))) (by omega) HN.out)
                  clear hown' hgrow hat hlt4 HOW HO HW HGr HN
                  go_wp2
                  go_roundw
                  case rel => exact HF.out
                  case measure => simp [intOf]; omega
          · have hne1 : 1 ≤ t.rs.length := List.length_pos_iff.2 hne
            obtain ⟨gg, oo, rcap, rfl, _⟩ := hrg0.out.src hne
            obtain ⟨tk, tc, tn, trs⟩ := t
            simp only at c1 c2 c3 c4 hwtk HN HDI hrg0 hrg hne hne1
            have hggl : gg < wr.heap.size := (hrg0.out.lt hne gg rfl).2
            have HB0 : Hid (Below wr.heap.size wr (((wr.alloc (.cells #[.int .i64 (tk : Nat), .int .i32 (tc : Nat), .bool tn, .slice (some ⟨gg, oo, none⟩) trs.length rcap] 33)).alloc (.cells #[.int .i64 (tk : Nat), .int .i32 (tc : Nat), .bool tn, .slice (some ⟨gg, oo, none⟩) trs.length rcap] 33)).alloc (.cells #[] 38)).drew) := Lib.hid (by
              have h := (((Below.refl wr.heap.size wr).alloc (Nat.le_refl _) (.cells #[.int .i64 (tk : Nat), .int .i32 (tc : Nat), .bool tn, .slice (some ⟨gg, oo, none⟩) trs.length rcap] 33)).alloc (by simp) (.cells #[.int .i64 (tk : Nat), .int .i32 (tc : Nat), .bool tn, .slice (some ⟨gg, oo, none⟩) trs.length rcap] 33)).alloc (by simp; omega) (.cells #[] 38)
              exact ⟨h.os, h.tape, h.output, h.size, h.block⟩)
            obtain ⟨gg2, oo2, rcap2, ee, hsrc⟩ := (hrg0.out.below HB0.out).src hne
            injection ee with ee1 ee2 ee3
            injection ee1 with ee1
            injection ee1 with ee1 ee4
            subst ee1 ee4
            clear ee2 ee3
            have HSRC := Lib.hid hsrc
            have HLEN : Hid ((rcells (cst trs)).length = trs.length * 2) := Lib.hid (by rw [rcells_len, List.length_map])
            have HOWN : Hid ((((wr.alloc (.cells #[.int .i64 (tk : Nat), .int .i32 (tc : Nat), .bool tn, .slice (some ⟨gg, oo, none⟩) trs.length rcap] 33)).alloc (.cells #[.int .i64 (tk : Nat), .int .i32 (tc : Nat), .bool tn, .slice (some ⟨gg, oo, none⟩) trs.length rcap] 33)).alloc (.cells #[] 38)).drew.ownsRow (wr.heap.size + 2) 38 2 (.slice (some ⟨wr.heap.size + 2, 0, none⟩) 0 0) 0 []) := Lib.hid (own_new _ _ (by simp)).drew
            have HS1 : Hid ((((wr.alloc (.cells #[.int .i64 (tk : Nat), .int .i32 (tc : Nat), .bool tn, .slice (some ⟨gg, oo, none⟩) trs.length rcap] 33)).alloc (.cells #[.int .i64 (tk : Nat), .int .i32 (tc : Nat), .bool tn, .slice (some ⟨gg, oo, none⟩) trs.length rcap] 33)).alloc (.cells #[] 38)).drew.cell? ⟨wr.heap.size, 3, none⟩ = some (.slice (some ⟨gg, oo, none⟩) trs.length rcap)) := Lib.hid (by
              have hbT : (((wr.alloc (.cells #[.int .i64 (tk : Nat), .int .i32 (tc : Nat), .bool tn, .slice (some ⟨gg, oo, none⟩) trs.length rcap] 33)).alloc (.cells #[.int .i64 (tk : Nat), .int .i32 (tc : Nat), .bool tn, .slice (some ⟨gg, oo, none⟩) trs.length rcap] 33)).alloc (.cells #[] 38)).drew.heap[wr.heap.size]? = some (.cells #[.int .i64 (tk : Nat), .int .i32 (tc : Nat), .bool tn, .slice (some ⟨gg, oo, none⟩) trs.length rcap] 33 (0, 0)) := by
                show (((wr.alloc (.cells #[.int .i64 (tk : Nat), .int .i32 (tc : Nat), .bool tn, .slice (some ⟨gg, oo, none⟩) trs.length rcap] 33)).alloc (.cells #[.int .i64 (tk : Nat), .int .i32 (tc : Nat), .bool tn, .slice (some ⟨gg, oo, none⟩) trs.length rcap] 33)).alloc (.cells #[] 38)).heap[wr.heap.size]? = _
                rw [(World.grownBy_alloc ((wr.alloc (.cells #[.int .i64 (tk : Nat), .int .i32 (tc : Nat), .bool tn, .slice (some ⟨gg, oo, none⟩) trs.length rcap] 33)).alloc (.cells #[.int .i64 (tk : Nat), .int .i32 (tc : Nat), .bool tn, .slice (some ⟨gg, oo, none⟩) trs.length rcap] 33)) (.cells #[] 38) none).block wr.heap.size (by simp; omega) (by simp), (World.grownBy_alloc (wr.alloc (.cells #[.int .i64 (tk : Nat), .int .i32 (tc : Nat), .bool tn, .slice (some ⟨gg, oo, none⟩) trs.length rcap] 33)) (.cells #[.int .i64 (tk : Nat), .int .i32 (tc : Nat), .bool tn, .slice (some ⟨gg, oo, none⟩) trs.length rcap] 33) none).block wr.heap.size (by simp) (by simp)]
                exact heap_alloc_new wr _
              exact (blk4 hbT).2.2.2.1)
            have HBZ : Hid (wr.heap.size + 2 ≤ (((wr.alloc (.cells #[.int .i64 (tk : Nat), .int .i32 (tc : Nat), .bool tn, .slice (some ⟨gg, oo, none⟩) trs.length rcap] 33)).alloc (.cells #[.int .i64 (tk : Nat), .int .i32 (tc : Nat), .bool tn, .slice (some ⟨gg, oo, none⟩) trs.length rcap] 33)).alloc (.cells #[] 38)).drew.heap.size) := Lib.hid (by show _ ≤ (((wr.alloc (.cells #[.int .i64 (tk : Nat), .int .i32 (tc : Nat), .bool tn, .slice (some ⟨gg, oo, none⟩) trs.length rcap] 33)).alloc (.cells #[.int .i64 (tk : Nat), .int .i32 (tc : Nat), .bool tn, .slice (some ⟨gg, oo, none⟩) trs.length rcap] 33)).alloc (.cells #[] 38)).heap.size; simp)
            have HADD : Hid (∀ j, ((⟨gg, oo, none⟩ : Addr).add j).block = gg) := Lib.hid (fun j => by unfold Addr.add; split <;> simp_all)
            have HDJ : Hid (∀ j, u5.ownBlock = some j → j < wr.heap.size) := Lib.hid (fun j e => (HO.out.2.1.lt j e).2)
            clear hsrc hrg hrg0
            go_wp2_with fail
            go_region_law (first | (refine step_append_lies _ (by rfl) _ _ _ (by rfl) (wr.heap.size + 2) 38 j0 (.agg #[.int .i32 0, .int .i32 0]) 2 8 Tryd.underlying31 hj hy0 hy1 hy2 rfl (by decide) _ 0 [] (by rfl) HOWN.out ⟨gg, oo, none⟩ trs.length rcap (rcells (cst trs)) (by rfl) HLEN.out HSRC.out (rcells_one _) hne1 (by unfold maxLen; omega) (by omega) HBZ.out _ rfl ?_; intro g4 cap4 w4 hown' hgrow hat hlt4; have hc4 : w4.cell? ⟨wr.heap.size, 3, none⟩ = some (.slice (some ⟨gg, oo, none⟩) trs.length rcap) := hgrow.cell HS1.out (by intro e; have e2 : wr.heap.size = wr.heap.size + 2 := Option.some.inj e; omega); have HG4 := Lib.hid hgrow; have HBZ4 := Nat.le_trans HBZ.out hgrow.size; have HO4a : Hid (w4.ownsRow (wr.heap.size + 2) 38 2 (.slice (some ⟨g4, 0, none⟩) trs.length cap4) trs.length (rcells (cst trs))) := Lib.hid (by rw [Nat.zero_add, List.nil_append] at hown'; exact hown'); have HSR4 := Lib.hid (fun (j : Nat) (u : Value) hj => hgrow.cell (HSRC.out j u hj) (by intro e; have e2 : ((⟨gg, oo, none⟩ : Addr).add j).block = wr.heap.size + 2 := Option.some.inj e; rw [HADD.out j] at e2; omega)); clear hown' hgrow hat hlt4) | (refine step_append_lies _ (by rfl) _ _ _ (by rfl) (wr.heap.size + 2) 38 j0 (.agg #[.int .i32 0, .int .i32 0]) 2 8 Tryd.underlying31 hj hy0 hy1 hy2 rfl (by decide) _ trs.length (rcells (cst trs)) (by rfl) HO4a.out ⟨gg, oo, none⟩ trs.length rcap (rcells (cst trs)) (by rfl) HLEN.out HSR4.out (rcells_one _) hne1 (by unfold maxLen; omega) (by omega) HBZ4 _ rfl ?_; intro g5 cap5 w5 hown' hgrow hat hlt5; have hc5 : w5.cell? ⟨wr.heap.size, 3, none⟩ = some (.slice (some ⟨gg, oo, none⟩) trs.length rcap) := hgrow.cell hc4 (by have := (HO4a.out.lt g4 rfl).1; intro e; have e2 : g4 = wr.heap.size := Option.some.inj e.symm; omega); have HT5 := Lib.hid (three_grown HG4.out hgrow (HO4a.out.lt g4 rfl).1); have HO5 := Lib.hid hown'; have hb5 := blk4 HT5.out.1; have z5 := hb5.2.2.2.1; have y5 := frz4 HT5.out.1 3; clear hown' hgrow hat hlt5 hb5) | fail)
            all_goals
              have hg5b : wr.heap.size + 2 ≤ g5 := (HO5.out.lt g5 rfl).1
              have hrow5 : RgRd 0 w5 (.slice (some ⟨g5, 0, none⟩) (trs.length + trs.length) cap5) (trs ++ trs) := OwnR.rd (B := wr.heap.size + 2) (by unfold OwnR; simpa [rcells] using HO5.out)
              have HG3 : Hid (w5.grownBy (w5.setCell ⟨wr.heap.size + 1, 3, none⟩ (.slice (some ⟨g5, 0, none⟩) (trs.length + trs.length) cap5)) (some (wr.heap.size + 1))) := Lib.hid (grownBy_setCell w5 (wr.heap.size + 1) 3 _ 0)
              have HBS : Hid (Below wr.heap.size wr (w5.setCell ⟨wr.heap.size + 1, 3, none⟩ (.slice (some ⟨g5, 0, none⟩) (trs.length + trs.length) cap5))) := Lib.hid (HT5.out.2.1.grown HG3.out HT5.out.2.1.size (fun k e => by injection e with e; omega))
              have HO4 : Hid (RgRd 0 (w5.setCell ⟨wr.heap.size + 1, 3, none⟩ (.slice (some ⟨g5, 0, none⟩) (trs.length + trs.length) cap5)) (.slice (some ⟨g5, 0, none⟩) (trs.length + trs.length) cap5) (trs ++ trs)) := Lib.hid (hrow5.kept HG3.out (fun _ k hk e => by have e1 : g5 = k := Option.some.inj hk; injection e with e; omega))
              have HDV : Hid (trs ++ trs ≠ [] → ∀ j, (Value.slice (some ⟨g5, 0, none⟩) (trs.length + trs.length) cap5).ownBlock = some j → u5.ownBlock ≠ some j) := Lib.hid (fun _ j hj e => by have := HDJ.out j e; have e' : g5 = j := Option.some.inj hj; omega)
              obtain ⟨v0, v1, v2, v3, _, _, _, _⟩ := blk4 HT5.out.1
              have hs5 := HT5.out.2.2
              clear hrow5 HO5
              have HBW : Hid (Below wr.heap.size wr ((w5.setCell ⟨wr.heap.size + 1, 3, none⟩ (.slice (some ⟨g5, 0, none⟩) (trs.length + trs.length) cap5)).alloc (.cells #[.int .i64 (tk : Nat), .int .i32 (tc : Nat), .bool tn, (.slice (some ⟨g5, 0, none⟩) (trs.length + trs.length) cap5)] 33))) := Lib.hid (HBS.out.alloc (HBS.out.size) _)
              have HOW := Lib.hid (HO.out.below HBW.out)
              have hbig := HBW.out.size
              go_wp2_with (at_builtin; refine wpList_append_lies _ rfl _ _ 27 rfl w3.heap.size 33 i0 (.agg #[.int .i64 0, .int .i32 0, .bool false, .slice none 0 0]) 4 40 Tryd.underlying27 hi hz0 hz1 hz2 rfl (by decide) _ _ _ rfl HOW.out.2.1 ⟨w5.heap.size, 0, none⟩ 1 1 [.int .i64 (tk : Nat), .int .i32 (tc : Nat), .bool tn, (.slice (some ⟨g5, 0, none⟩) (trs.length + trs.length) cap5)] rfl rfl ?cq10_1 ?cq10_2 (by decide) ?cq10_3 ?cq10_4 ?cq10_5 _ rfl ?_)
              try case cq10_1 => exact four_at _ _ (by simp) _ _ _ _ _
              try case cq10_2 => first | exact ⟨rfl, rfl, rfl, rfl⟩ | (intro u hu; simp at hu; rcases hu with rfl | rfl | rfl | rfl <;> rfl)
              try case cq10_3 => unfold maxLen; omega
              try case cq10_4 => omega
              try case cq10_5 => first | omega | (simp at hbig ⊢; omega)
              · intro g cap w4' hown' hgrow hat hlt4
                have HF := Lib.hid (BuildRel.step (us := fun k => (ts.take k).map twiceT) (n := ts.length) (k' := k + 1) HOW.out HW.out HGr.out HBW.out (x := ⟨_, _, _, _⟩) ⟨rfl, rfl, rfl, HO4.out.below ((Below.refl _ _).alloc (Nat.le_refl _) _)⟩ (HDV.out) hown' hgrow (by first | exact hat | (rcases hat with h | h; exact .inl h; exact .inr (by rw [h]; simp))) (by omega) HN.out)
                clear hown' hgrow hat hlt4 HOW HO HW HGr HN
                go_wp2
                go_roundw
                case rel => exact HF.out
                case measure => simp [intOf]; omega
        · obtain rfl : k = ts.length := by omega
          have HR : Hid (TmsRd 0 wr u5 (ts.map twiceT)) := Lib.hid (by have := HO.out.rd; rw [List.take_length] at this; exact this)
          have HBR : Hid (Below w3.heap.size w4 wr) := Lib.hid (grown_below HGr.out (by omega) (fun k e => by injection e with e; omega))
          have HE5 := Lib.hid (HE0.out.from HE4.out HBR.out)
          have HB5 := Lib.hid (HB4.out.trans (HBR.out.mono hsz))
          obtain ⟨ua, uc, hu⟩ : ∃ ua uc, u5 = .slice ua ts.length uc := by
            obtain ⟨ua, uc, hu⟩ := HO.out.len
            exact ⟨ua, uc, by rw [hu]; simp⟩
          subst hu
          clear HO HW HGr HT HBR HE4 HB4 HE0
          obtain ⟨w5, hww⟩ : ∃ x, x = wr := ⟨_, rfl⟩
          subst hww
          go_wp2_with fail
          refine (writeAll_call 0 _ (ts.map twiceT) w5 HR.out (by omega) HOK.out).mono ?_
          rintro e w6 ⟨rfl, hb⟩
          have HE6 := Lib.hid (HE5.out.on hb)
          have HB6 := Lib.hid (HB5.out.trans (hb.mono HB5.out.size))
          clear hb HE5 HB5
          rw [HQE.out]
          clear HQE HR HOK
          go_wp2_with fail
          refine (alikeB ae _ _ _ p Q n w6 HE6.out rfl rfl rfl (by omega) (by omega) (by omega)).mono ?_
          rintro e w7 ⟨rfl, hb⟩
          have HB7 := Lib.hid (HB6.out.trans (hb.mono HB6.out.size))
          clear hb HE6 HB6
          rw [HQ.out]
          clear HQ
          go_wp2
          go_ret
          exact ⟨rfl, HB7.out⟩



set_option maxRecDepth 100000 in
theorem lifted (os : Os) (started : os.Started) (H : Type) (enc : TypeId × Value → H) :
    ReturnsInHanded {} Tryd.checked os 3 .any (fun w args => (Rows.fnClassTwiceSpec.pre enc Tryd.prog Tryd.f3 Rows.fnClassTwiceRow.domain false w args ∧ laidMetH Tryd.prog Rows.fnClassTwiceRow.laid w) ∧ sizedMet enc Tryd.prog Tryd.f3 (OpenSpec.ofChange Rows.fnClassTwiceSpec) false w args) (Rows.fnClassTwiceSpec.post enc Tryd.prog Tryd.f3 false true false false) := by
  refine returnsInHanded_of_change_and (C := Tryd.checked) (X := fun w _ => laidMetH Tryd.prog Rows.fnClassTwiceRow.laid w) (fun _ _ _ hh h => h.of_heap hh) own started (by kernel_rfl) Tryd.func3
    (ChangeSpec.witness_shaped (enc := enc) (C := Tryd.checked) (os := os) (X := fun w _ => laidMetH Tryd.prog Rows.fnClassTwiceRow.laid w) false (World.laidAll Tryd.prog os Rows.fnClassTwiceRow.laid) #[.slice none 0 0] 8 (World.laidAll_os _ _ _)
      (World.shaped_of_ZipB (by kernel_rfl) (by kernel_rfl)) (by kernel_rfl) (by kernel_rfl) (by kernel_rfl)
      (by rw [MakeChecks.laidMetH_plain _ _ _ (by kernel_rfl)]; exact laidMet_laidAll _ (by kernel_rfl) (by kernel_rfl))) ?_
  intro W base args ds gs before hval0 hW hcnd hsz0 hL _
  have hval : ∀ (j : Nat) t v, Tryd.f3.params[j]? = some t → args[j]? = some v → Value.okWide Tryd.prog W .any base t v := hval0
  have hW' := hW
  obtain ⟨p, q, hA0, hV, rfl, hfz, hnd⟩ := hW
  have hA : DataW.TrodAll enc Tryd.prog W 0 (fun _ => true) true Tryd.f3.params.toList args.toList ds p := hA0
  rw [Tryd.params3] at hA hval
  obtain ⟨v0, vs0, d0, ds0, p0, q0, hargs, rfl, rfl, h0, r0⟩ := trodAll_cons hA
  obtain ⟨rfl, rfl, rfl⟩ := trodAll_nil r0
  obtain rfl : args = #[v0] := by cases args; simp_all
  obtain ⟨rfl, rfl⟩ := trodVars_none hV
  obtain ⟨a0, len0, cap0, rfl⟩ := okWide_slice Tryd.underlying22 (hval 0 22 v0 rfl rfl)
  have k0 := h0
  have lt0 : ∀ x ∈ p0, x.block < W.heap.size := by obtain ⟨m, hm⟩ := k0; exact DataW.trod_lt m _ _ _ hm
  obtain ⟨z0, w0⟩ : ∃ zs, IsRow .u8 W a0 len0 cap0 zs := by
    obtain ⟨fuel, hf⟩ := h0
    rcases open_ints Tryd.underlying22 Tryd.underlying5 (by kernel_rfl) hf with ⟨hcs, _⟩ | ⟨x, l, c, zs, hcs, _, hl, hm, hz, _, hcell, hwz⟩
    · simp [Value.cells] at hcs
      obtain ⟨rfl, rfl, rfl⟩ := hcs
      exact ⟨[], .inl ⟨rfl, rfl, rfl, rfl⟩⟩
    · simp [Value.cells] at hcs
      obtain ⟨rfl, rfl, rfl⟩ := hcs
      exact ⟨zs, .inr ⟨_, rfl, hl, hm, by simpa using hz, hcell, hwz⟩⟩
  obtain ⟨ae, hE⟩ := env_of hL
  clear hA0 hval0
  refine (walk a0 len0 cap0 z0 W w0 ae hE).mono fun e W' ⟨he, bel⟩ => ?_
  subst he
  exact ⟨_, rfl, _, _, _, [], _, [], hW', trodAll_mk1 (shut_bool Tryd.underlying4 _), (trodAll_cons_mk (Below.trod laidOut (by kernel_rfl) (of_decide_eq_true (by kernel_rfl)) k0 bel lt0) trodAll_mk0), rfl, bel.frame _, fun h => by cases h⟩

theorem over : Rows.fnClassTwiceRow.holds Tryd.pinned (OpenSpec.ofChange Rows.fnClassTwiceSpec) :=
  OpenClaim.holds_of_wide 3 Tryd.f3 rfl rfl rfl rfl rfl rfl rfl ⟨rfl, rfl, rfl, rfl, rfl⟩ rfl rfl rfl rfl rfl (by kernel_rfl) Tryd.func3 (by kernel_rfl)
    (of_decide_eq_true (by kernel_rfl)) (by unfold Func.isWrapper; first | (rw [if_pos (by decide +kernel)]; kernel_rfl) | (rw [if_neg (by decide +kernel)]; exact ⟨rfl, rfl⟩))
    (fun os started H enc _ => lifted os started H enc)

theorem proved : Rows.FnClassTwiceCardSaid :=
  Claim7.holds_tied_plain_at .later [] Rows.fnClassTwiceCard.laidKinds true Rows.fnClassTwiceCard.stood.harness true over (fun _ h => by cases h) (by kernel_rfl) (fun _ h => by cases h) fnClassTwice_row_tie rfl ⟨rfl, rfl⟩ (by kernel_rfl) rfl
    (fun f fn hf hfn => by
      obtain rfl : f = 3 := Option.some.inj ((show Tryd.prog.funcNamed Rows.fnClassTwiceRow.func = some 3 by kernel_rfl).symm.trans hf) |>.symm
      obtain rfl : fn = Tryd.f3 := (Option.some.inj (Tryd.func3.symm.trans hfn)).symm
      exact ⟨by kernel_rfl, fun j t ht => by
        rw [Tryd.params3] at ht
        have hm : t ∈ [22] := by simpa using Array.mem_of_getElem? ht
        have hall : ([22].all fun u => !Tryd.prog.wantsStandIn u) = true := by kernel_rfl
        exact (show Tryd.prog.wantsStandIn t = false by simpa using List.all_eq_true.1 hall t hm)⟩)
    (by kernel_rfl)
end Go.Proofs.YtlfppmhkgfhecaaDoor.fnClassTwice


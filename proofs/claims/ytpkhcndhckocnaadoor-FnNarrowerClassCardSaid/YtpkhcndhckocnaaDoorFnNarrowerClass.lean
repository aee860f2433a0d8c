/-
  Of decided pairs, without one more range in each class with a ^ a pattern matches what it matched with it: the law returns true for every input and leaves it as it was. Conditions: none.
  The frame round the walk is the kit's own (proof-skeleton.mjs).
-/
import Derived.Test.YtpkhcndhckocnaaDoorRows
import Derived.Test.YtpkhcndhckocnaaDoorTermH
import Derived.Test.YtpkhcndhckocnaaDoorTie
import Derived.Test.YtpkhcndhckocnaaDoorCards
import Derived.Test.YtpkhcndhckocnaaDoorLaid
import Derived.LaidMore
import Derived.Lay
import Derived.SevenTiedAt
import Derived.Stop.Joined
namespace Go.Proofs.YtpkhcndhckocnaaDoor.fnNarrowerClass
open Go.ChangeShapes Go.WideShapes Go.ChangeAt Go.RowKit
open Go.ChangeMaps (open_string shut_string)
set_option linter.unusedVariables false

set_option maxHeartbeats 2000000 in
theorem walk (a : Option Addr) (len cap : Nat) (zs : List Int) (w : World) (hr : IsRow .u8 w a len cap zs) (ae : Addr) (hE : Env ae w) :
    Calls Tryd.prog 5 #[.slice a len cap] w fun e w' => e = .returned (.bool true) ∧ Below w.heap.size w w' := by
  have HR := Lib.hid hr
  have HE := Lib.hid hE
  clear hr hE
  by_cases hlen : 1048576 < len
  · have hl' : (1048576 : Int) < len := by omega
    go_enter Tryd.func5, Tryd.ntmps5
    go_wp2
    go_ret
    exact ⟨rfl, Below.refl _ _⟩
  · have hl' : ¬ (1048576 : Int) < len := by omega
    go_enter Tryd.func5, Tryd.ntmps5
    go_wp2_with fail
    refine (drawMatch_any a len cap zs _ HR.out (by omega)).mono ?_
    rintro e w1 ⟨p, n, rfl, hpl, hnl, hb⟩
    have HE1 := Lib.hid (HE.out.on hb)
    have HB1 := Lib.hid hb
    clear hb HR HE
    go_wp2_with fail
    refine (yesStar ae w1 HE1.out).mono ?_
    rintro e w2 ⟨rfl, hb⟩
    have HE2 := Lib.hid (HE1.out.on hb)
    have HB2 := Lib.hid (HB1.out.trans (hb.mono HB1.out.size))
    clear hb HE1 HB1
    go_wp2_with fail
    refine (decidedCB ae _ _ p n w2 HE2.out rfl rfl (by omega) (by omega)).mono ?_
    rintro e w3 ⟨rfl, hb⟩
    have HE3 := Lib.hid (HE2.out.on hb)
    have HB3 := Lib.hid (HB2.out.trans (hb.mono HB2.out.size))
    clear hb HE2 HB2
    generalize hD : decdB p n = D
    have HD := Lib.hid hD
    clear hD
    cases D with
    | false =>
      go_wp2
      go_ret
      exact ⟨rfl, HB3.out⟩
    | true =>
      obtain ⟨ts, hrd, hpa, hgood, _, _⟩ := wf_terms (decd_wf HD.out)
      have hwt := read_weight' p ts hrd
      have hwl := weight_len ts
      have HG : Hid (∀ t ∈ ts, goodTm t) := Lib.hid hgood
      have HRD := Lib.hid hrd
      have HQ := Lib.hid (fun he => law_narrower (n := n) ⟨decd_wf HD.out, hrd⟩ HD.out he)
      clear HD
      clear hrd hpa hgood
      have hwm : weight (ts.map (widerT true)) ≤ 2 * weight ts := weight_map (widerT true) 1 (fun t => by have := widerT_len true t; omega) ts
      have hql := writeA_len (ts.map (widerT true))
      have HOK : Hid (∀ t ∈ ts.map (widerT true), okNum t) := Lib.hid (fun t ht => by obtain ⟨u, hu, rfl⟩ := List.mem_map.1 ht; exact good_ok (widerT_good true (HG.out u hu)))
      obtain ⟨Q, hQ⟩ : ∃ Q, Q = writeA (ts.map (widerT true)) := ⟨_, rfl⟩
      rw [← hQ] at hql HQ
      have HQE := Lib.hid hQ.symm
      clear hQ
      have HO := Lib.hid (TB.made (lo := w3.heap.size) w3 (Nat.le_refl _))
      have HEA := Lib.hid (HE3.out.alloc (.cells #[] 36))
      have HBA := Lib.hid (HB3.out.alloc HB3.out.size (.cells #[] 36))
      have hfd := fld0
      go_wp2_with fail
      refine (readB _ p _ rfl (by omega)).mono ?_
      rintro e w4 ⟨hb, va, vn, vc, rfl, hts⟩
      obtain ⟨rfl, htm⟩ := hts ts HRD.out
      have hs1 : w3.heap.size + 1 ≤ w4.heap.size := by have := hb.size; simpa using this
      have HT : Hid (TmsRd (w3.heap.size + 1) w4 (.slice va ts.length vc) ts) := Lib.hid (by simpa using htm)
      have HO1 := Lib.hid (HO.out.below hb)
      have HE4 := Lib.hid (HEA.out.on hb)
      have HB4 := Lib.hid (HBA.out.trans (hb.mono HBA.out.size))
      have HE0 := HE3
      have hsz := HB3.out.size
      generalize rdOk p = OK
      generalize rdSet p = ST
      clear hb HEA HBA hts htm HO HE3 HB3 HRD
      obtain ⟨i0, hi, hz0, hz1, hz2⟩ := info_parts infoT
      go_wp2
      go_loopw [5, 28] (fun o i wr => BuildRel (fun k => (ts.take k).map (widerT true)) ts.length w3.heap.size w4 o i wr) (fun _ i _ => ts.length - (intOf i).toNat)
      case atStart => exact ⟨0, [], rfl, by omega, HO1.out, fun j e => .inl (Option.some.inj (show some w3.heap.size = some j from e)).symm, World.grownBy.refl _ _⟩
      case round =>
        clear HO1
        obtain ⟨k, xs, rfl, hk, hO, hW, hGr⟩ := hrel
        have HO : Hid (TB w3.heap.size wr u5 xs ((ts.take k).map (widerT true))) := Lib.hid hO
        have HW := Lib.hid hW
        have HGr := Lib.hid hGr
        have hg5 := hGr.size
        clear hO hW hGr
        by_cases hkl : k < ts.length
        · obtain ⟨t, htk⟩ : ∃ t, ts[k]? = some t := ⟨_, List.getElem?_eq_getElem hkl⟩
          obtain ⟨a', cap', e', _, hcells⟩ := HT.out
          obtain ⟨g, o, rv, rfl, hlo, hlt, d1, d2, d3, d4, hrg5⟩ := hcells k t htk
          injection e' with e1 e2 e3
          subst e1
          clear e2 e3 hcells
          have hng : some g ≠ some w3.heap.size := by intro e; injection e with e; omega
          have c1 := HGr.out.cell d1 hng
          have c2 := HGr.out.cell d2 hng
          have c3 := HGr.out.cell d3 hng
          have c4 := HGr.out.cell d4 hng
          have hrg := hrg5.grown HGr.out (fun k e => by injection e with e; omega)
          have HDI : Hid (t.rs ≠ [] → ∀ j, rv.ownBlock = some j → u5.ownBlock ≠ some j) := Lib.hid (fun hne j hj e => by have := hrg5.lt hne j hj; rcases HW.out j e with h | h <;> omega)
          have HN : Hid ((ts.take (k + 1)).map (widerT true) = (ts.take k).map (widerT true) ++ [(widerT true) t]) := Lib.hid (map_take_succ (widerT true) htk)
          have hxl : xs.length ≤ 1048576 := by have := HO.out.1; rw [List.length_map, List.length_take] at this; omega
          have HGT := Lib.hid (HG.out t (List.mem_of_getElem? htk))
          have hwtk := weight_at' htk
          have hrg0 := Lib.hid (hrg.low (Nat.zero_le _))
          have hgl : g < wr.heap.size := by omega
          clear d1 d2 d3 d4 hrg5 hng HG HT htk
          obtain ⟨j0, hj, hy0, hy1, hy2⟩ := info_parts infoR
          by_cases kk : t.kind = 2 ∧ t.neg = true
          · have HS : Hid ((widerT true) t = { t with rs := t.rs ++ [(97, 109)] }) := Lib.hid (by unfold widerT; rw [if_pos kk])
            rw [HS.out] at HN
            obtain ⟨k2, kn⟩ := kk
            obtain ⟨_, hne, _⟩ := good_class HGT.out k2
            have hne1 : 1 ≤ t.rs.length := List.length_pos_iff.2 hne
            obtain ⟨gg, oo, rcap, rfl, _⟩ := hrg0.out.src hne
            obtain ⟨tk, tc, tn, trs⟩ := t
            simp only at c1 c2 c3 c4 hwtk k2 kn HN HDI hrg0 hrg hne hne1
            subst k2 kn
            have HB0 : Hid (Below wr.heap.size wr ((wr.alloc (.cells #[.int .i64 2, .int .i32 (tc : Nat), .bool true, .slice (some ⟨gg, oo, none⟩) trs.length rcap] 36)).alloc (.cells #[] 38))) := Lib.hid (((Below.refl _ wr).alloc (Nat.le_refl _) _).alloc (by simp) _)
            obtain ⟨gg2, oo2, rcap2, ee, hsrc⟩ := (hrg0.out.below HB0.out).src hne
            injection ee with ee1 ee2 ee3
            injection ee1 with ee1
            injection ee1 with ee1 ee4
            subst ee1 ee4
            clear ee2 ee3
            have HSRC := Lib.hid hsrc
            have HSRC2 : Hid (∀ (j : Nat) (u : Value), (rcells (cst trs))[j]? = some u → ((wr.alloc (.cells #[.int .i64 2, .int .i32 (tc : Nat), .bool true, .slice (some ⟨gg, oo, none⟩) trs.length rcap] 36)).alloc (.cells #[] 38)).cell? ⟨gg, oo + j, none⟩ = some u) := Lib.hid (fun j u hj => by
              have h1 := hsrc j u hj
              have ea : (⟨gg, oo, none⟩ : Addr).add j = ⟨gg, oo + j, none⟩ := by unfold Addr.add; split <;> simp_all
              rw [ea] at h1
              exact h1)
            have HO0 : Hid (((wr.alloc (.cells #[.int .i64 2, .int .i32 (tc : Nat), .bool true, .slice (some ⟨gg, oo, none⟩) trs.length rcap] 36)).alloc (.cells #[] 38)).ownsRow (wr.heap.size + 1) 38 2 (.slice (some ⟨wr.heap.size + 1, 0, none⟩) 0 0) 0 []) := Lib.hid (own_new _ _ (by simp))
            have HDJ : Hid (∀ j, u5.ownBlock = some j → j < wr.heap.size) := Lib.hid (fun j e => (HO.out.2.1.lt j e).2)
            clear hsrc HS hrg
            go_wp2_with (at_builtin; refine wpList_append_lies _ rfl _ _ 34 rfl (wr.heap.size + 1) 38 j0 (.agg #[.int .i32 0, .int .i32 0]) 2 8 Tryd.underlying34 hj hy0 hy1 hy2 rfl (by decide) _ _ _ rfl HO0.out ⟨gg, oo, none⟩ trs.length rcap (rcells (cst trs)) rfl (by rw [rcells_len, List.length_map]) ?cq8_1 ?cq8_2 (by omega) ?cq8_3 ?cq8_4 ?cq8_5 _ rfl ?_)
            try case cq8_1 => (first | exact HSRC.out | exact HSRC2.out | trace_state)
            try case cq8_2 => first | exact ⟨rfl, rfl⟩ | (intro u hu; exact rcells_one _ u hu) | (intro u hu; simp at hu; rcases hu with rfl | rfl <;> rfl)
            try case cq8_3 => unfold maxLen; omega
            try case cq8_4 => omega
            try case cq8_5 => first | omega | (simp; omega) | simp
            · intro g1 cap1 wq1 hown1 hgrow1 hat1 hlt1
              have HG1 : Hid (((wr.alloc (.cells #[.int .i64 2, .int .i32 (tc : Nat), .bool true, .slice (some ⟨gg, oo, none⟩) trs.length rcap] 36)).alloc (.cells #[] 38)).grownBy wq1 (some (wr.heap.size + 1))) := Lib.hid hgrow1
              have HO1 : Hid (wq1.ownsRow (wr.heap.size + 1) 38 2 (.slice (some ⟨g1, 0, none⟩) trs.length cap1) trs.length (rcells (cst trs))) := Lib.hid (by simpa using hown1)
              have hgb1 : wr.heap.size + 1 ≤ g1 := (HO1.out.lt g1 rfl).1
              have hsw := hgrow1.size
              simp at hsw
              clear hown1 hgrow1 hat1 HSRC HSRC2 HO0
              go_wp2_with (at_builtin; refine wpList_append_lies _ rfl _ _ 34 rfl (wr.heap.size + 1) 38 j0 (.agg #[.int .i32 0, .int .i32 0]) 2 8 Tryd.underlying34 hj hy0 hy1 hy2 rfl (by decide) _ _ _ rfl (HO1.out.alloc _) ⟨wq1.heap.size, 0, none⟩ 1 1 [.int .i32 97, .int .i32 109] rfl rfl ?cq9_1 ?cq9_2 (by omega) ?cq9_3 ?cq9_4 ?cq9_5 _ rfl ?_)
              try case cq9_1 => (first | exact cell_two_new _ _ _ _ | trace_state)
              try case cq9_2 => first | exact ⟨rfl, rfl⟩ | (intro u hu; exact rcells_one _ u hu) | (intro u hu; simp at hu; rcases hu with rfl | rfl <;> rfl)
              try case cq9_3 => unfold maxLen; omega
              try case cq9_4 => omega
              try case cq9_5 => first | omega | (simp; omega) | simp
              · intro g3 cap3 wq3 hown3 hgrow3 hat3 hlt3
                obtain ⟨hbk, hbw, hbs⟩ := two_grown HG1.out hgrow3 hgb1
                obtain ⟨z0, z1, z2, z3, f0, f1, f2, f3⟩ := blk4 hbk
                have HO3 : Hid (RgRd 0 wq3 (.slice (some ⟨g3, 0, none⟩) (trs.length + 1) cap3) (trs ++ [(97, 109)])) := Lib.hid (OwnR.rd (B := wr.heap.size + 1) (by unfold OwnR; simpa [rcells] using hown3))
                have hg3 : wr.heap.size + 1 ≤ g3 := (hown3.lt g3 rfl).1
                have HG3 : Hid (wq3.grownBy (wq3.setCell ⟨wr.heap.size, 3, none⟩ (.slice (some ⟨g3, 0, none⟩) (trs.length + 1) cap3)) (some wr.heap.size)) := Lib.hid (grownBy_setCell wq3 wr.heap.size 3 _ 0)
                have HBS : Hid (Below wr.heap.size wr (wq3.setCell ⟨wr.heap.size, 3, none⟩ (.slice (some ⟨g3, 0, none⟩) (trs.length + 1) cap3))) := Lib.hid (hbw.grown HG3.out hbw.size (fun k e => by injection e with e; omega))
                have HO4 : Hid (RgRd 0 (wq3.setCell ⟨wr.heap.size, 3, none⟩ (.slice (some ⟨g3, 0, none⟩) (trs.length + 1) cap3)) (.slice (some ⟨g3, 0, none⟩) (trs.length + 1) cap3) (trs ++ [(97, 109)])) := Lib.hid (HO3.out.kept HG3.out (fun _ k hk e => by have e1 : g3 = k := Option.some.inj hk; injection e with e; omega))
                have hs6 : wr.heap.size ≤ (wq3.setCell ⟨wr.heap.size, 3, none⟩ (.slice (some ⟨g3, 0, none⟩) (trs.length + 1) cap3)).heap.size := HBS.out.size
                clear hown3 hgrow3 hat3 HG1 HO1 hbk hbw HO3
                have HBW : Hid (Below wr.heap.size wr ((wq3.setCell ⟨wr.heap.size, 3, none⟩ (.slice (some ⟨g3, 0, none⟩) (trs.length + 1) cap3)).alloc (.cells #[.int .i64 2, .int .i32 (tc : Nat), .bool true, (.slice (some ⟨g3, 0, none⟩) (trs.length + 1) cap3)] 36))) := Lib.hid (HBS.out.alloc (HBS.out.size) _)
                have HOW := Lib.hid (HO.out.below HBW.out)
                have hbig := HBW.out.size
                
                go_wp2_with (at_builtin; refine wpList_append_lies _ rfl _ _ 30 rfl w3.heap.size 36 i0 (.agg #[.int .i64 0, .int .i32 0, .bool false, .slice none 0 0]) 4 40 Tryd.underlying30 hi hz0 hz1 hz2 rfl (by decide) _ _ _ rfl HOW.out.2.1 ⟨wq3.heap.size, 0, none⟩ 1 1 [.int .i64 2, .int .i32 (tc : Nat), .bool true, (.slice (some ⟨g3, 0, none⟩) (trs.length + 1) cap3)] rfl rfl ?cq10_1 ?cq10_2 (by decide) ?cq10_3 ?cq10_4 ?cq10_5 _ rfl ?_)
                try case cq10_1 => exact four_at _ _ (by simp) _ _ _ _ _
                try case cq10_2 => first | exact ⟨rfl, rfl, rfl, rfl⟩ | (intro u hu; simp at hu; rcases hu with rfl | rfl | rfl | rfl <;> rfl)
                try case cq10_3 => unfold maxLen; omega
                try case cq10_4 => omega
                try case cq10_5 => omega
                · intro g cap w4 hown' hgrow hat hlt4
                  have HF := Lib.hid (BuildRel.step (us := fun k => (ts.take k).map (widerT true)) (n := ts.length) (k' := k + 1) HOW.out HW.out HGr.out HBW.out (x := ⟨_, _, _, _⟩) ⟨rfl, rfl, rfl, HO4.out.below ((Below.refl _ _).alloc (Nat.le_refl _) _)⟩ (fun _ j hj e => by have := HDJ.out j e; have e' : g3 = j := Option.some.inj hj; omega) hown' hgrow (by first | exact hat | (rcases hat with h | h; exact .inl h; exact .inr (by rw [h]; simp))) (by omega) HN.out)
                  clear hown' hgrow hat hlt4 HOW HO HW HGr HN
                  go_wp2
                  go_roundw
                  case rel => exact HF.out
                  case measure => simp [intOf]; omega
          · have HS : Hid ((widerT true) t = t) := Lib.hid (by unfold widerT; rw [if_neg kk])
            rw [HS.out] at HN
            obtain ⟨ra, rcap, rfl, _⟩ := hrg
            obtain ⟨tk, tc, tn, trs⟩ := t
            simp only at c1 c2 c3 c4 hwtk HN HDI hrg0 kk
            clear HS
            by_cases k2 : tk = 2
            · subst k2
              obtain rfl : tn = false := by cases tn <;> simp at kk ⊢
              clear kk
              have HBW : Hid (Below wr.heap.size wr ((wr.alloc (.cells #[.int .i64 2, .int .i32 (tc : Nat), .bool false, (.slice ra trs.length rcap)] 36)).alloc (.cells #[.int .i64 2, .int .i32 (tc : Nat), .bool false, (.slice ra trs.length rcap)] 36))) := Lib.hid (((Below.refl _ wr).alloc (Nat.le_refl _) _).alloc (by simp) _)
              have HOW := Lib.hid (HO.out.below HBW.out)
              have hbig := HBW.out.size
              
              go_wp2_with (at_builtin; refine wpList_append_lies _ rfl _ _ 30 rfl w3.heap.size 36 i0 (.agg #[.int .i64 0, .int .i32 0, .bool false, .slice none 0 0]) 4 40 Tryd.underlying30 hi hz0 hz1 hz2 rfl (by decide) _ _ _ rfl HOW.out.2.1 ⟨wr.heap.size + 1, 0, none⟩ 1 1 [.int .i64 2, .int .i32 (tc : Nat), .bool false, (.slice ra trs.length rcap)] rfl rfl ?cq11_1 ?cq11_2 (by decide) ?cq11_3 ?cq11_4 ?cq11_5 _ rfl ?_)
              try case cq11_1 => exact four_at _ _ (by simp) _ _ _ _ _
              try case cq11_2 => first | exact ⟨rfl, rfl, rfl, rfl⟩ | (intro u hu; simp at hu; rcases hu with rfl | rfl | rfl | rfl <;> rfl)
              try case cq11_3 => unfold maxLen; omega
              try case cq11_4 => omega
              try case cq11_5 => omega
              · intro g cap w4 hown' hgrow hat hlt4
                have HF := Lib.hid (BuildRel.step (us := fun k => (ts.take k).map (widerT true)) (n := ts.length) (k' := k + 1) HOW.out HW.out HGr.out HBW.out (x := ⟨_, _, _, _⟩) ⟨rfl, rfl, rfl, hrg0.out.kept (below_grown HBW.out) (fun _ _ _ e => by cases e)⟩ (HDI.out) hown' hgrow (by first | exact hat | (rcases hat with h | h; exact .inl h; exact .inr (by rw [h]; simp))) (by omega) HN.out)
                clear hown' hgrow hat hlt4 HOW HO HW HGr HN
                go_wp2
                go_roundw
                case rel => exact HF.out
                case measure => simp [intOf]; omega
            · have b2 : (((tk : Nat) : Int) == 2) = false := by simp; omega
              clear kk k2
              have HBW : Hid (Below wr.heap.size wr ((wr.alloc (.cells #[.int .i64 (tk : Nat), .int .i32 (tc : Nat), .bool tn, (.slice ra trs.length rcap)] 36)).alloc (.cells #[.int .i64 (tk : Nat), .int .i32 (tc : Nat), .bool tn, (.slice ra trs.length rcap)] 36))) := Lib.hid (((Below.refl _ wr).alloc (Nat.le_refl _) _).alloc (by simp) _)
              have HOW := Lib.hid (HO.out.below HBW.out)
              have hbig := HBW.out.size
              
              go_wp2_with (at_builtin; refine wpList_append_lies _ rfl _ _ 30 rfl w3.heap.size 36 i0 (.agg #[.int .i64 0, .int .i32 0, .bool false, .slice none 0 0]) 4 40 Tryd.underlying30 hi hz0 hz1 hz2 rfl (by decide) _ _ _ rfl HOW.out.2.1 ⟨wr.heap.size + 1, 0, none⟩ 1 1 [.int .i64 (tk : Nat), .int .i32 (tc : Nat), .bool tn, (.slice ra trs.length rcap)] rfl rfl ?cq12_1 ?cq12_2 (by decide) ?cq12_3 ?cq12_4 ?cq12_5 _ rfl ?_)
              try case cq12_1 => exact four_at _ _ (by simp) _ _ _ _ _
              try case cq12_2 => first | exact ⟨rfl, rfl, rfl, rfl⟩ | (intro u hu; simp at hu; rcases hu with rfl | rfl | rfl | rfl <;> rfl)
              try case cq12_3 => unfold maxLen; omega
              try case cq12_4 => omega
              try case cq12_5 => omega
              · intro g cap w4 hown' hgrow hat hlt4
                have HF := Lib.hid (BuildRel.step (us := fun k => (ts.take k).map (widerT true)) (n := ts.length) (k' := k + 1) HOW.out HW.out HGr.out HBW.out (x := ⟨_, _, _, _⟩) ⟨rfl, rfl, rfl, hrg0.out.kept (below_grown HBW.out) (fun _ _ _ e => by cases e)⟩ (HDI.out) hown' hgrow (by first | exact hat | (rcases hat with h | h; exact .inl h; exact .inr (by rw [h]; simp))) (by omega) HN.out)
                clear hown' hgrow hat hlt4 HOW HO HW HGr HN
                go_wp2
                go_roundw
                case rel => exact HF.out
                case measure => simp [intOf]; omega
        · obtain rfl : k = ts.length := by omega
          have HR : Hid (TmsRd 0 wr u5 (ts.map (widerT true))) := Lib.hid (by have := HO.out.rd; rw [List.take_length] at this; exact this)
          have HBR : Hid (Below w3.heap.size w4 wr) := Lib.hid (grown_below HGr.out (by omega) (fun k e => by injection e with e; omega))
          have HE5 := Lib.hid (HE0.out.from HE4.out HBR.out)
          have HB5 := Lib.hid (HB4.out.trans (HBR.out.mono hsz))
          obtain ⟨ua, uc, hu⟩ : ∃ ua uc, u5 = .slice ua ts.length uc := by
            obtain ⟨ua, uc, hu⟩ := HO.out.len
            exact ⟨ua, uc, by rw [hu]; simp⟩
          subst hu
          clear HO HW HGr HT HBR HE4 HB4 HE0
          obtain ⟨w5, hww⟩ : ∃ x, x = wr := ⟨_, rfl⟩
          subst hww
          go_wp2_with fail
          refine (writeAll_call 0 _ (ts.map (widerT true)) w5 HR.out (by omega) HOK.out).mono ?_
          rintro e w6 ⟨rfl, hb⟩
          have HE6 := Lib.hid (HE5.out.on hb)
          have HB6 := Lib.hid (HB5.out.trans (hb.mono HB5.out.size))
          clear hb HE5 HB5
          rw [HQE.out]
          clear HQE HR HOK
          go_wp2_with fail
          refine (yesB ae _ _ Q n w6 HE6.out rfl rfl (by omega) (by omega)).mono ?_
          rintro e w7 ⟨rfl, hb⟩
          have HE7 := Lib.hid (HE6.out.on hb)
          have HB7 := Lib.hid (HB6.out.trans (hb.mono HB6.out.size))
          clear hb HE6 HB6
          generalize hM : mm Q n = M
          have HM := Lib.hid hM
          clear hM
          cases M with
          | false =>
            go_wp2
            go_ret
            exact ⟨rfl, HB7.out⟩
          | true =>
            have HQ2 := Lib.hid (HQ.out HM.out)
            clear HQ HM
            go_wp2_with fail
            refine (yesB ae _ _ p n w7 HE7.out rfl rfl (by omega) (by omega)).mono ?_
            rintro e w8 ⟨rfl, hb⟩
            have HE8 := Lib.hid (HE7.out.on hb)
            have HB8 := Lib.hid (HB7.out.trans (hb.mono HB7.out.size))
            clear hb HE7 HB7
            rw [HQ2.out]
            clear HQ2
            go_wp2
            go_ret
            exact ⟨rfl, HB8.out⟩


set_option maxRecDepth 100000 in
theorem lifted (os : Os) (started : os.Started) (H : Type) (enc : TypeId × Value → H) :
    ReturnsInHanded {} Tryd.checked os 5 .any (fun w args => (Rows.fnNarrowerClassSpec.pre enc Tryd.prog Tryd.f5 Rows.fnNarrowerClassRow.domain false w args ∧ laidMetH Tryd.prog Rows.fnNarrowerClassRow.laid w) ∧ sizedMet enc Tryd.prog Tryd.f5 (OpenSpec.ofChange Rows.fnNarrowerClassSpec) false w args) (Rows.fnNarrowerClassSpec.post enc Tryd.prog Tryd.f5 false true false false) := by
  refine returnsInHanded_of_change_and (C := Tryd.checked) (X := fun w _ => laidMetH Tryd.prog Rows.fnNarrowerClassRow.laid w) (fun _ _ _ hh h => h.of_heap hh) own started (by kernel_rfl) Tryd.func5
    (ChangeSpec.witness_shaped (enc := enc) (C := Tryd.checked) (os := os) (X := fun w _ => laidMetH Tryd.prog Rows.fnNarrowerClassRow.laid w) false (World.laidAll Tryd.prog os Rows.fnNarrowerClassRow.laid) #[.slice none 0 0] 8 (World.laidAll_os _ _ _)
      (World.shaped_of_ZipB (by kernel_rfl) (by kernel_rfl)) (by kernel_rfl) (by kernel_rfl) (by kernel_rfl)
      (by rw [MakeChecks.laidMetH_plain _ _ _ (by kernel_rfl)]; exact laidMet_laidAll _ (by kernel_rfl) (by kernel_rfl))) ?_
  intro W base args ds gs before hval0 hW hcnd hsz0 hL _
  have hval : ∀ (j : Nat) t v, Tryd.f5.params[j]? = some t → args[j]? = some v → Value.okWide Tryd.prog W .any base t v := hval0
  have hW' := hW
  obtain ⟨p, q, hA0, hV, rfl, hfz, hnd⟩ := hW
  have hA : DataW.TrodAll enc Tryd.prog W 0 (fun _ => true) true Tryd.f5.params.toList args.toList ds p := hA0
  rw [Tryd.params5] at hA hval
  obtain ⟨v0, vs0, d0, ds0, p0, q0, hargs, rfl, rfl, h0, r0⟩ := trodAll_cons hA
  obtain ⟨rfl, rfl, rfl⟩ := trodAll_nil r0
  obtain rfl : args = #[v0] := by cases args; simp_all
  obtain ⟨rfl, rfl⟩ := trodVars_none hV
  obtain ⟨a0, len0, cap0, rfl⟩ := okWide_slice Tryd.underlying22 (hval 0 22 v0 rfl rfl)
  have k0 := h0
  have lt0 : ∀ x ∈ p0, x.block < W.heap.size := by obtain ⟨m, hm⟩ := k0; exact DataW.trod_lt m _ _ _ hm
  obtain ⟨z0, w0⟩ : ∃ zs, IsRow .u8 W a0 len0 cap0 zs := by
    obtain ⟨fuel, hf⟩ := h0
    rcases open_ints Tryd.underlying22 Tryd.underlying5 (by kernel_rfl) hf with ⟨hcs, _⟩ | ⟨x, l, c, zs, hcs, _, hl, hm, hz, _, hcell, hwz⟩
    · simp [Value.cells] at hcs
      obtain ⟨rfl, rfl, rfl⟩ := hcs
      exact ⟨[], .inl ⟨rfl, rfl, rfl, rfl⟩⟩
    · simp [Value.cells] at hcs
      obtain ⟨rfl, rfl, rfl⟩ := hcs
      exact ⟨zs, .inr ⟨_, rfl, hl, hm, by simpa using hz, hcell, hwz⟩⟩
  obtain ⟨ae, hE⟩ := env_of hL
  clear hA0 hval0
  refine (walk a0 len0 cap0 z0 W w0 ae hE).mono fun e W' ⟨he, bel⟩ => ?_
  subst he
  exact ⟨_, rfl, _, _, _, [], _, [], hW', trodAll_mk1 (shut_bool Tryd.underlying4 _), (trodAll_cons_mk (Below.trod laidOut (by kernel_rfl) (of_decide_eq_true (by kernel_rfl)) k0 bel lt0) trodAll_mk0), rfl, bel.frame _, fun h => by cases h⟩

theorem over : Rows.fnNarrowerClassRow.holds Tryd.pinned (OpenSpec.ofChange Rows.fnNarrowerClassSpec) :=
  OpenClaim.holds_of_wide 5 Tryd.f5 rfl rfl rfl rfl rfl rfl rfl ⟨rfl, rfl, rfl, rfl, rfl⟩ rfl rfl rfl rfl rfl (by kernel_rfl) Tryd.func5 (by kernel_rfl)
    (of_decide_eq_true (by kernel_rfl)) (by unfold Func.isWrapper; first | (rw [if_pos (by decide +kernel)]; kernel_rfl) | (rw [if_neg (by decide +kernel)]; exact ⟨rfl, rfl⟩))
    (fun os started H enc _ => lifted os started H enc)

theorem proved : Rows.FnNarrowerClassCardSaid :=
  Claim7.holds_tied_plain_at .later [] Rows.fnNarrowerClassCard.laidKinds true Rows.fnNarrowerClassCard.stood.harness true over (fun _ h => by cases h) (by kernel_rfl) (fun _ h => by cases h) fnNarrowerClass_row_tie rfl ⟨rfl, rfl⟩ (by kernel_rfl) rfl
    (fun f fn hf hfn => by
      obtain rfl : f = 5 := Option.some.inj ((show Tryd.prog.funcNamed Rows.fnNarrowerClassRow.func = some 5 by kernel_rfl).symm.trans hf) |>.symm
      obtain rfl : fn = Tryd.f5 := (Option.some.inj (Tryd.func5.symm.trans hfn)).symm
      exact ⟨by kernel_rfl, fun j t ht => by
        rw [Tryd.params5] at ht
        have hm : t ∈ [22] := by simpa using Array.mem_of_getElem? ht
        have hall : ([22].all fun u => !Tryd.prog.wantsStandIn u) = true := by kernel_rfl
        exact (show Tryd.prog.wantsStandIn t = false by simpa using List.all_eq_true.1 hall t hm)⟩)
    (by kernel_rfl)
end Go.Proofs.YtpkhcndhckocnaaDoor.fnNarrowerClass


/-
  Of decided pairs, with one more range in each class without a ^ a pattern matches what it matched before: the law returns true for every input and leaves it as it was. Conditions: none.
  The frame round the walk is the kit's own (proof-skeleton.mjs).
-/
import Derived.Test.YtpkhcndhckocnaaDoorRows
import Derived.Test.YtpkhcndhckocnaaDoorTermH
import Derived.Test.YtpkhcndhckocnaaDoorTie
import Derived.Test.YtpkhcndhckocnaaDoorCards
import Derived.Test.YtpkhcndhckocnaaDoorLaid
import Derived.LaidMore
import Derived.Lay
import Derived.SevenTiedAt
import Derived.Stop.Joined
namespace Go.Proofs.YtpkhcndhckocnaaDoor.fnWiderClass
open Go.ChangeShapes Go.WideShapes Go.ChangeAt Go.RowKit
open Go.ChangeMaps (open_string shut_string)
set_option linter.unusedVariables false

set_option maxHeartbeats 2000000 in
theorem walk (a : Option Addr) (len cap : Nat) (zs : List Int) (w : World) (hr : IsRow .u8 w a len cap zs) (ae : Addr) (hE : Env ae w) :
    Calls Tryd.prog 13 #[.slice a len cap] w fun e w' => e = .returned (.bool true) ∧ Below w.heap.size w w' := by
  have HR := Lib.hid hr
  have HE := Lib.hid hE
  clear hr hE
  by_cases hlen : 1048576 < len
  · have hl' : (1048576 : Int) < len := by omega
    go_enter Tryd.func13, Tryd.ntmps13
    go_wp2
    go_ret
    exact ⟨rfl, Below.refl _ _⟩
  · have hl' : ¬ (1048576 : Int) < len := by omega
    go_enter Tryd.func13, Tryd.ntmps13
    go_wp2_with fail
    refine (drawMatch_any a len cap zs _ HR.out (by omega)).mono ?_
    rintro e w1 ⟨p, n, rfl, hpl, hnl, hb⟩
    have HE1 := Lib.hid (HE.out.on hb)
    have HB1 := Lib.hid hb
    clear hb HR HE
    go_wp2_with fail
    refine (yesStar ae w1 HE1.out).mono ?_
    rintro e w2 ⟨rfl, hb⟩
    have HE2 := Lib.hid (HE1.out.on hb)
    have HB2 := Lib.hid (HB1.out.trans (hb.mono HB1.out.size))
    clear hb HE1 HB1
    go_wp2_with fail
    refine (soundCB ae _ _ p n w2 HE2.out rfl rfl (by omega) (by omega)).mono ?_
    rintro e w3 ⟨rfl, hb⟩
    have HE3 := Lib.hid (HE2.out.on hb)
    have HB3 := Lib.hid (HB2.out.trans (hb.mono HB2.out.size))
    clear hb HE2 HB2
    generalize hS : soundB p n = S
    have HS := Lib.hid hS
    clear hS
    cases S with
    | false =>
      go_wp2
      go_ret
      exact ⟨rfl, HB3.out⟩
    | true =>
      go_wp2_with fail
      refine (yesB ae _ _ p n w3 HE3.out rfl rfl (by omega) (by omega)).mono ?_
      rintro e w4 ⟨rfl, hb⟩
      have HE4 := Lib.hid (HE3.out.on hb)
      have HB4 := Lib.hid (HB3.out.trans (hb.mono HB3.out.size))
      clear hb HE3 HB3
      generalize hM : mm p n = M
      have HM := Lib.hid hM
      clear hM
      cases M with
      | false =>
        go_wp2
        go_ret
        exact ⟨rfl, HB4.out⟩
      | true =>
        obtain ⟨ts, hrd, hpa, hgood, _, _⟩ := wf_terms (sound_wf HS.out)
        have hwt := read_weight' p ts hrd
        have hwl := weight_len ts
        have HG : Hid (∀ t ∈ ts, goodTm t) := Lib.hid hgood
        have HRD := Lib.hid hrd
        have HQ := Lib.hid (fun he => law_widerClass (n := n) ⟨sound_wf HS.out, hrd⟩ HS.out HM.out he)
        clear HS HM
        clear hrd hpa hgood
        have hwm : weight (ts.map (widerT false)) ≤ 2 * weight ts := weight_map (widerT false) 1 (fun t => by have := widerT_len false t; omega) ts
        have hql := writeA_len (ts.map (widerT false))
        have HOK : Hid (∀ t ∈ ts.map (widerT false), okNum t) := Lib.hid (fun t ht => by obtain ⟨u, hu, rfl⟩ := List.mem_map.1 ht; exact good_ok (widerT_good false (HG.out u hu)))
        obtain ⟨Q, hQ⟩ : ∃ Q, Q = writeA (ts.map (widerT false)) := ⟨_, rfl⟩
        rw [← hQ] at hql HQ
        have HQE := Lib.hid hQ.symm
        clear hQ
        have HO := Lib.hid (TB.made (lo := w4.heap.size) w4 (Nat.le_refl _))
        have HEA := Lib.hid (HE4.out.alloc (.cells #[] 36))
        have HBA := Lib.hid (HB4.out.alloc HB4.out.size (.cells #[] 36))
        have hfd := fld0
        go_wp2_with fail
        refine (readB _ p _ rfl (by omega)).mono ?_
        rintro e w5 ⟨hb, va, vn, vc, rfl, hts⟩
        obtain ⟨rfl, htm⟩ := hts ts HRD.out
        have hs1 : w4.heap.size + 1 ≤ w5.heap.size := by have := hb.size; simpa using this
        have HT : Hid (TmsRd (w4.heap.size + 1) w5 (.slice va ts.length vc) ts) := Lib.hid (by simpa using htm)
        have HO1 := Lib.hid (HO.out.below hb)
        have HE5 := Lib.hid (HEA.out.on hb)
        have HB5 := Lib.hid (HBA.out.trans (hb.mono HBA.out.size))
        have HE0 := HE4
        have hsz := HB4.out.size
        generalize rdOk p = OK
        generalize rdSet p = ST
        clear hb HEA HBA hts htm HO HE4 HB4 HRD
        obtain ⟨i0, hi, hz0, hz1, hz2⟩ := info_parts infoT
        go_wp2
        go_loopw [5, 34] (fun o i wr => BuildRel (fun k => (ts.take k).map (widerT false)) ts.length w4.heap.size w5 o i wr) (fun _ i _ => ts.length - (intOf i).toNat)
        case atStart => exact ⟨0, [], rfl, by omega, HO1.out, fun j e => .inl (Option.some.inj (show some w4.heap.size = some j from e)).symm, World.grownBy.refl _ _⟩
        case round =>
          clear HO1
          obtain ⟨k, xs, rfl, hk, hO, hW, hGr⟩ := hrel
          have HO : Hid (TB w4.heap.size wr u5 xs ((ts.take k).map (widerT false))) := Lib.hid hO
          have HW := Lib.hid hW
          have HGr := Lib.hid hGr
          have hg5 := hGr.size
          clear hO hW hGr
          by_cases hkl : k < ts.length
          · obtain ⟨t, htk⟩ : ∃ t, ts[k]? = some t := ⟨_, List.getElem?_eq_getElem hkl⟩
            obtain ⟨a', cap', e', _, hcells⟩ := HT.out
            obtain ⟨g, o, rv, rfl, hlo, hlt, d1, d2, d3, d4, hrg5⟩ := hcells k t htk
            injection e' with e1 e2 e3
            subst e1
            clear e2 e3 hcells
            have hng : some g ≠ some w4.heap.size := by intro e; injection e with e; omega
            have c1 := HGr.out.cell d1 hng
            have c2 := HGr.out.cell d2 hng
            have c3 := HGr.out.cell d3 hng
            have c4 := HGr.out.cell d4 hng
            have hrg := hrg5.grown HGr.out (fun k e => by injection e with e; omega)
            have HDI : Hid (t.rs ≠ [] → ∀ j, rv.ownBlock = some j → u5.ownBlock ≠ some j) := Lib.hid (fun hne j hj e => by have := hrg5.lt hne j hj; rcases HW.out j e with h | h <;> omega)
            have HN : Hid ((ts.take (k + 1)).map (widerT false) = (ts.take k).map (widerT false) ++ [(widerT false) t]) := Lib.hid (map_take_succ (widerT false) htk)
            have hxl : xs.length ≤ 1048576 := by have := HO.out.1; rw [List.length_map, List.length_take] at this; omega
            have HGT := Lib.hid (HG.out t (List.mem_of_getElem? htk))
            have hwtk := weight_at' htk
            have hrg0 := Lib.hid (hrg.low (Nat.zero_le _))
            have hgl : g < wr.heap.size := by omega
            clear d1 d2 d3 d4 hrg5 hng HG HT htk
            obtain ⟨j0, hj, hy0, hy1, hy2⟩ := info_parts infoR
            by_cases kk : t.kind = 2 ∧ t.neg = false
            · have HS : Hid ((widerT false) t = { t with rs := t.rs ++ [(97, 109)] }) := Lib.hid (by unfold widerT; rw [if_pos kk])
              rw [HS.out] at HN
              obtain ⟨k2, kn⟩ := kk
              obtain ⟨_, hne, _⟩ := good_class HGT.out k2
              have hne1 : 1 ≤ t.rs.length := List.length_pos_iff.2 hne
              obtain ⟨gg, oo, rcap, rfl, _⟩ := hrg0.out.src hne
              obtain ⟨tk, tc, tn, trs⟩ := t
              simp only at c1 c2 c3 c4 hwtk k2 kn HN HDI hrg0 hrg hne hne1
              subst k2 kn
              have HB0 : Hid (Below wr.heap.size wr ((wr.alloc (.cells #[.int .i64 2, .int .i32 (tc : Nat), .bool false, .slice (some ⟨gg, oo, none⟩) trs.length rcap] 36)).alloc (.cells #[] 38))) := Lib.hid (((Below.refl _ wr).alloc (Nat.le_refl _) _).alloc (by simp) _)
              obtain ⟨gg2, oo2, rcap2, ee, hsrc⟩ := (hrg0.out.below HB0.out).src hne
              injection ee with ee1 ee2 ee3
              injection ee1 with ee1
              injection ee1 with ee1 ee4
              subst ee1 ee4
              clear ee2 ee3
              have HSRC := Lib.hid hsrc
              have HSRC2 : Hid (∀ (j : Nat) (u : Value), (rcells (cst trs))[j]? = some u → ((wr.alloc (.cells #[.int .i64 2, .int .i32 (tc : Nat), .bool false, .slice (some ⟨gg, oo, none⟩) trs.length rcap] 36)).alloc (.cells #[] 38)).cell? ⟨gg, oo + j, none⟩ = some u) := Lib.hid (fun j u hj => by
                have h1 := hsrc j u hj
                have ea : (⟨gg, oo, none⟩ : Addr).add j = ⟨gg, oo + j, none⟩ := by unfold Addr.add; split <;> simp_all
                rw [ea] at h1
                exact h1)
              have HO0 : Hid (((wr.alloc (.cells #[.int .i64 2, .int .i32 (tc : Nat), .bool false, .slice (some ⟨gg, oo, none⟩) trs.length rcap] 36)).alloc (.cells #[] 38)).ownsRow (wr.heap.size + 1) 38 2 (.slice (some ⟨wr.heap.size + 1, 0, none⟩) 0 0) 0 []) := Lib.hid (own_new _ _ (by simp))
              have HDJ : Hid (∀ j, u5.ownBlock = some j → j < wr.heap.size) := Lib.hid (fun j e => (HO.out.2.1.lt j e).2)
              clear hsrc HS hrg
              go_wp2_with (at_builtin; refine wpList_append_lies _ rfl _ _ 34 rfl (wr.heap.size + 1) 38 j0 (.agg #[.int .i32 0, .int .i32 0]) 2 8 Tryd.underlying34 hj hy0 hy1 hy2 rfl (by decide) _ _ _ rfl HO0.out ⟨gg, oo, none⟩ trs.length rcap (rcells (cst trs)) rfl (by rw [rcells_len, List.length_map]) ?cq3_1 ?cq3_2 (by omega) ?cq3_3 ?cq3_4 ?cq3_5 _ rfl ?_)
              try case cq3_1 => (first | exact HSRC.out | exact HSRC2.out | trace_state)
              try case cq3_2 => first | exact ⟨rfl, rfl⟩ | (intro u hu; exact rcells_one _ u hu) | (intro u hu; simp at hu; rcases hu with rfl | rfl <;> rfl)
              try case cq3_3 => unfold maxLen; omega
              try case cq3_4 => omega
              try case cq3_5 => first | omega | (simp; omega) | simp
              · intro g1 cap1 wq1 hown1 hgrow1 hat1 hlt1
                have HG1 : Hid (((wr.alloc (.cells #[.int .i64 2, .int .i32 (tc : Nat), .bool false, .slice (some ⟨gg, oo, none⟩) trs.length rcap] 36)).alloc (.cells #[] 38)).grownBy wq1 (some (wr.heap.size + 1))) := Lib.hid hgrow1
                have HO1 : Hid (wq1.ownsRow (wr.heap.size + 1) 38 2 (.slice (some ⟨g1, 0, none⟩) trs.length cap1) trs.length (rcells (cst trs))) := Lib.hid (by simpa using hown1)
                have hgb1 : wr.heap.size + 1 ≤ g1 := (HO1.out.lt g1 rfl).1
                have hsw := hgrow1.size
                simp at hsw
                clear hown1 hgrow1 hat1 HSRC HSRC2 HO0
                go_wp2_with (at_builtin; refine wpList_append_lies _ rfl _ _ 34 rfl (wr.heap.size + 1) 38 j0 (.agg #[.int .i32 0, .int .i32 0]) 2 8 Tryd.underlying34 hj hy0 hy1 hy2 rfl (by decide) _ _ _ rfl (HO1.out.alloc _) ⟨wq1.heap.size, 0, none⟩ 1 1 [.int .i32 97, .int .i32 109] rfl rfl ?cq4_1 ?cq4_2 (by omega) ?cq4_3 ?cq4_4 ?cq4_5 _ rfl ?_)
                try case cq4_1 => (first | exact cell_two_new _ _ _ _ | trace_state)
                try case cq4_2 => first | exact ⟨rfl, rfl⟩ | (intro u hu; exact rcells_one _ u hu) | (intro u hu; simp at hu; rcases hu with rfl | rfl <;> rfl)
                try case cq4_3 => unfold maxLen; omega
                try case cq4_4 => omega
                try case cq4_5 => first | omega | (simp; omega) | simp
                · intro g3 cap3 wq3 hown3 hgrow3 hat3 hlt3
                  obtain ⟨hbk, hbw, hbs⟩ := two_grown HG1.out hgrow3 hgb1
                  obtain ⟨z0, z1, z2, z3, f0, f1, f2, f3⟩ := blk4 hbk
                  have HO3 : Hid (RgRd 0 wq3 (.slice (some ⟨g3, 0, none⟩) (trs.length + 1) cap3) (trs ++ [(97, 109)])) := Lib.hid (OwnR.rd (B := wr.heap.size + 1) (by unfold OwnR; simpa [rcells] using hown3))
                  have hg3 : wr.heap.size + 1 ≤ g3 := (hown3.lt g3 rfl).1
                  have HG3 : Hid (wq3.grownBy (wq3.setCell ⟨wr.heap.size, 3, none⟩ (.slice (some ⟨g3, 0, none⟩) (trs.length + 1) cap3)) (some wr.heap.size)) := Lib.hid (grownBy_setCell wq3 wr.heap.size 3 _ 0)
                  have HBS : Hid (Below wr.heap.size wr (wq3.setCell ⟨wr.heap.size, 3, none⟩ (.slice (some ⟨g3, 0, none⟩) (trs.length + 1) cap3))) := Lib.hid (hbw.grown HG3.out hbw.size (fun k e => by injection e with e; omega))
                  have HO4 : Hid (RgRd 0 (wq3.setCell ⟨wr.heap.size, 3, none⟩ (.slice (some ⟨g3, 0, none⟩) (trs.length + 1) cap3)) (.slice (some ⟨g3, 0, none⟩) (trs.length + 1) cap3) (trs ++ [(97, 109)])) := Lib.hid (HO3.out.kept HG3.out (fun _ k hk e => by have e1 : g3 = k := Option.some.inj hk; injection e with e; omega))
                  have hs6 : wr.heap.size ≤ (wq3.setCell ⟨wr.heap.size, 3, none⟩ (.slice (some ⟨g3, 0, none⟩) (trs.length + 1) cap3)).heap.size := HBS.out.size
                  clear hown3 hgrow3 hat3 HG1 HO1 hbk hbw HO3
                  have HBW : Hid (Below wr.heap.size wr ((wq3.setCell ⟨wr.heap.size, 3, none⟩ (.slice (some ⟨g3, 0, none⟩) (trs.length + 1) cap3)).alloc (.cells #[.int .i64 2, .int .i32 (tc : Nat), .bool false, (.slice (some ⟨g3, 0, none⟩) (trs.length + 1) cap3)] 36))) := Lib.hid (HBS.out.alloc (HBS.out.size) _)
                  have HOW := Lib.hid (HO.out.below HBW.out)
                  have hbig := HBW.out.size
                  
                  go_wp2_with (at_builtin; refine wpList_append_lies _ rfl _ _ 30 rfl w4.heap.size 36 i0 (.agg #[.int .i64 0, .int .i32 0, .bool false, .slice none 0 0]) 4 40 Tryd.underlying30 hi hz0 hz1 hz2 rfl (by decide) _ _ _ rfl HOW.out.2.1 ⟨wq3.heap.size, 0, none⟩ 1 1 [.int .i64 2, .int .i32 (tc : Nat), .bool false, (.slice (some ⟨g3, 0, none⟩) (trs.length + 1) cap3)] rfl rfl ?cq5_1 ?cq5_2 (by decide) ?cq5_3 ?cq5_4 ?cq5_5 _ rfl ?_)
                  try case cq5_1 => exact four_at _ _ (by simp) _ _ _ _ _
                  try case cq5_2 => first | exact ⟨rfl, rfl, rfl, rfl⟩ | (intro u hu; simp at hu; rcases hu with rfl | rfl | rfl | rfl <;> rfl)
                  try case cq5_3 => unfold maxLen; omega
                  try case cq5_4 => omega
                  try case cq5_5 => omega
                  · intro g cap w4 hown' hgrow hat hlt4
                    have HF := Lib.hid (BuildRel.step (us := fun k => (ts.take k).map (widerT false)) (n := ts.length) (k' := k + 1) HOW.out HW.out HGr.out HBW.out (x := ⟨_, _, _, _⟩) ⟨rfl, rfl, rfl, HO4.out.below ((Below.refl _ _).alloc (Nat.le_refl _) _)⟩ (fun _ j hj e => by have := HDJ.out j e; have e' : g3 = j := Option.some.inj hj; omega) hown' hgrow (by first | exact hat | (rcases hat with h | h; exact .inl h; exact .inr (by rw [h]; simp))) (by omega) HN.out)
                    clear hown' hgrow hat hlt4 HOW HO HW HGr HN
                    go_wp2
                    go_roundw
                    case rel => exact HF.out
                    case measure => simp [intOf]; omega
            · have HS : Hid ((widerT false) t = t) := Lib.hid (by unfold widerT; rw [if_neg kk])
              rw [HS.out] at HN
              obtain ⟨ra, rcap, rfl, _⟩ := hrg
              obtain ⟨tk, tc, tn, trs⟩ := t
              simp only at c1 c2 c3 c4 hwtk HN HDI hrg0 kk
              clear HS
              by_cases k2 : tk = 2
              · subst k2
                obtain rfl : tn = true := by cases tn <;> simp at kk ⊢
                clear kk
                have HBW : Hid (Below wr.heap.size wr ((wr.alloc (.cells #[.int .i64 2, .int .i32 (tc : Nat), .bool true, (.slice ra trs.length rcap)] 36)).alloc (.cells #[.int .i64 2, .int .i32 (tc : Nat), .bool true, (.slice ra trs.length rcap)] 36))) := Lib.hid (((Below.refl _ wr).alloc (Nat.le_refl _) _).alloc (by simp) _)
                have HOW := Lib.hid (HO.out.below HBW.out)
                have hbig := HBW.out.size
                
                go_wp2_with (at_builtin; refine wpList_append_lies _ rfl _ _ 30 rfl w4.heap.size 36 i0 (.agg #[.int .i64 0, .int .i32 0, .bool false, .slice none 0 0]) 4 40 Tryd.underlying30 hi hz0 hz1 hz2 rfl (by decide) _ _ _ rfl HOW.out.2.1 ⟨wr.heap.size + 1, 0, none⟩ 1 1 [.int .i64 2, .int .i32 (tc : Nat), .bool true, (.slice ra trs.length rcap)] rfl rfl ?cq6_1 ?cq6_2 (by decide) ?cq6_3 ?cq6_4 ?cq6_5 _ rfl ?_)
                try case cq6_1 => exact four_at _ _ (by simp) _ _ _ _ _
                try case cq6_2 => first | exact ⟨rfl, rfl, rfl, rfl⟩ | (intro u hu; simp at hu; rcases hu with rfl | rfl | rfl | rfl <;> rfl)
                try case cq6_3 => unfold maxLen; omega
                try case cq6_4 => omega
                try case cq6_5 => omega
                · intro g cap w4 hown' hgrow hat hlt4
                  have HF := Lib.hid (BuildRel.step (us := fun k => (ts.take k).map (widerT false)) (n := ts.length) (k' := k + 1) HOW.out HW.out HGr.out HBW.out (x := ⟨_, _, _, _⟩) ⟨rfl, rfl, rfl, hrg0.out.kept (below_grown HBW.out) (fun _ _ _ e => by cases e)⟩ (HDI.out) hown' hgrow (by first | exact hat | (rcases hat with h | h; exact .inl h; exact .inr (by rw [h]; simp))) (by omega) HN.out)
                  clear hown' hgrow hat hlt4 HOW HO HW HGr HN
                  go_wp2
                  go_roundw
                  case rel => exact HF.out
                  case measure => simp [intOf]; omega
              · have b2 : (((tk : Nat) : Int) == 2) = false := by simp; omega
                clear kk k2
                have HBW : Hid (Below wr.heap.size wr ((wr.alloc (.cells #[.int .i64 (tk : Nat), .int .i32 (tc : Nat), .bool tn, (.slice ra trs.length rcap)] 36)).alloc (.cells #[.int .i64 (tk : Nat), .int .i32 (tc : Nat), .bool tn, (.slice ra trs.length rcap)] 36))) := Lib.hid (((Below.refl _ wr).alloc (Nat.le_refl _) _).alloc (by simp) _)
                have HOW := Lib.hid (HO.out.below HBW.out)
                have hbig := HBW.out.size
                
                go_wp2_with (at_builtin; refine wpList_append_lies _ rfl _ _ 30 rfl w4.heap.size 36 i0 (.agg #[.int .i64 0, .int .i32 0, .bool false, .slice none 0 0]) 4 40 Tryd.underlying30 hi hz0 hz1 hz2 rfl (by decide) _ _ _ rfl HOW.out.2.1 ⟨wr.heap.size + 1, 0, none⟩ 1 1 [.int .i64 (tk : Nat), .int .i32 (tc : Nat), .bool tn, (.slice ra trs.length rcap)] rfl rfl ?cq7_1 ?cq7_2 (by decide) ?cq7_3 ?cq7_4 ?cq7_5 _ rfl ?_)
                try case cq7_1 => exact four_at _ _ (by simp) _ _ _ _ _
                try case cq7_2 => first | exact ⟨rfl, rfl, rfl, rfl⟩ | (intro u hu; simp at hu; rcases hu with rfl | rfl | rfl | rfl <;> rfl)
                try case cq7_3 => unfold maxLen; omega
                try case cq7_4 => omega
                try case cq7_5 => omega
                · intro g cap w4 hown' hgrow hat hlt4
                  have HF := Lib.hid (BuildRel.step (us := fun k => (ts.take k).map (widerT false)) (n := ts.length) (k' := k + 1) HOW.out HW.out HGr.out HBW.out (x := ⟨_, _, _, _⟩) ⟨rfl, rfl, rfl, hrg0.out.kept (below_grown HBW.out) (fun _ _ _ e => by cases e)⟩ (HDI.out) hown' hgrow (by first | exact hat | (rcases hat with h | h; exact .inl h; exact .inr (by rw [h]; simp))) (by omega) HN.out)
                  clear hown' hgrow hat hlt4 HOW HO HW HGr HN
                  go_wp2
                  go_roundw
                  case rel => exact HF.out
                  case measure => simp [intOf]; omega
          · obtain rfl : k = ts.length := by omega
            have HR : Hid (TmsRd 0 wr u5 (ts.map (widerT false))) := Lib.hid (by have := HO.out.rd; rw [List.take_length] at this; exact this)
            have HBR : Hid (Below w4.heap.size w5 wr) := Lib.hid (grown_below HGr.out (by omega) (fun k e => by injection e with e; omega))
            have HE6 := Lib.hid (HE0.out.from HE5.out HBR.out)
            have HB6 := Lib.hid (HB5.out.trans (HBR.out.mono hsz))
            obtain ⟨ua, uc, hu⟩ : ∃ ua uc, u5 = .slice ua ts.length uc := by
              obtain ⟨ua, uc, hu⟩ := HO.out.len
              exact ⟨ua, uc, by rw [hu]; simp⟩
            subst hu
            clear HO HW HGr HT HBR HE5 HB5 HE0
            obtain ⟨w6, hww⟩ : ∃ x, x = wr := ⟨_, rfl⟩
            subst hww
            go_wp2_with fail
            refine (writeAll_call 0 _ (ts.map (widerT false)) w6 HR.out (by omega) HOK.out).mono ?_
            rintro e w7 ⟨rfl, hb⟩
            have HE7 := Lib.hid (HE6.out.on hb)
            have HB7 := Lib.hid (HB6.out.trans (hb.mono HB6.out.size))
            clear hb HE6 HB6
            rw [HQE.out]
            clear HQE HR HOK
            go_wp2_with fail
            refine (decidedCB ae _ _ Q n w7 HE7.out rfl rfl (by omega) (by omega)).mono ?_
            rintro e w8 ⟨rfl, hb⟩
            have HE8 := Lib.hid (HE7.out.on hb)
            have HB8 := Lib.hid (HB7.out.trans (hb.mono HB7.out.size))
            clear hb HE7 HB7
            generalize hC : decdB Q n = C
            have HC := Lib.hid hC
            clear hC
            cases C with
            | false =>
              go_wp2
              go_ret
              exact ⟨rfl, HB8.out⟩
            | true =>
              have HQ2 := Lib.hid (HQ.out HC.out)
              clear HQ HC
              go_wp2_with fail
              refine (yesB ae _ _ Q n w8 HE8.out rfl rfl (by omega) (by omega)).mono ?_
              rintro e w9 ⟨rfl, hb⟩
              have HE9 := Lib.hid (HE8.out.on hb)
              have HB9 := Lib.hid (HB8.out.trans (hb.mono HB8.out.size))
              clear hb HE8 HB8
              rw [HQ2.out]
              clear HQ2
              go_wp2
              go_ret
              exact ⟨rfl, HB9.out⟩


set_option maxRecDepth 100000 in
theorem lifted (os : Os) (started : os.Started) (H : Type) (enc : TypeId × Value → H) :
    ReturnsInHanded {} Tryd.checked os 13 .any (fun w args => (Rows.fnWiderClassSpec.pre enc Tryd.prog Tryd.f13 Rows.fnWiderClassRow.domain false w args ∧ laidMetH Tryd.prog Rows.fnWiderClassRow.laid w) ∧ sizedMet enc Tryd.prog Tryd.f13 (OpenSpec.ofChange Rows.fnWiderClassSpec) false w args) (Rows.fnWiderClassSpec.post enc Tryd.prog Tryd.f13 false true false false) := by
  refine returnsInHanded_of_change_and (C := Tryd.checked) (X := fun w _ => laidMetH Tryd.prog Rows.fnWiderClassRow.laid w) (fun _ _ _ hh h => h.of_heap hh) own started (by kernel_rfl) Tryd.func13
    (ChangeSpec.witness_shaped (enc := enc) (C := Tryd.checked) (os := os) (X := fun w _ => laidMetH Tryd.prog Rows.fnWiderClassRow.laid w) false (World.laidAll Tryd.prog os Rows.fnWiderClassRow.laid) #[.slice none 0 0] 8 (World.laidAll_os _ _ _)
      (World.shaped_of_ZipB (by kernel_rfl) (by kernel_rfl)) (by kernel_rfl) (by kernel_rfl) (by kernel_rfl)
      (by rw [MakeChecks.laidMetH_plain _ _ _ (by kernel_rfl)]; exact laidMet_laidAll _ (by kernel_rfl) (by kernel_rfl))) ?_
  intro W base args ds gs before hval0 hW hcnd hsz0 hL _
  have hval : ∀ (j : Nat) t v, Tryd.f13.params[j]? = some t → args[j]? = some v → Value.okWide Tryd.prog W .any base t v := hval0
  have hW' := hW
  obtain ⟨p, q, hA0, hV, rfl, hfz, hnd⟩ := hW
  have hA : DataW.TrodAll enc Tryd.prog W 0 (fun _ => true) true Tryd.f13.params.toList args.toList ds p := hA0
  rw [Tryd.params13] at hA hval
  obtain ⟨v0, vs0, d0, ds0, p0, q0, hargs, rfl, rfl, h0, r0⟩ := trodAll_cons hA
  obtain ⟨rfl, rfl, rfl⟩ := trodAll_nil r0
  obtain rfl : args = #[v0] := by cases args; simp_all
  obtain ⟨rfl, rfl⟩ := trodVars_none hV
  obtain ⟨a0, len0, cap0, rfl⟩ := okWide_slice Tryd.underlying22 (hval 0 22 v0 rfl rfl)
  have k0 := h0
  have lt0 : ∀ x ∈ p0, x.block < W.heap.size := by obtain ⟨m, hm⟩ := k0; exact DataW.trod_lt m _ _ _ hm
  obtain ⟨z0, w0⟩ : ∃ zs, IsRow .u8 W a0 len0 cap0 zs := by
    obtain ⟨fuel, hf⟩ := h0
    rcases open_ints Tryd.underlying22 Tryd.underlying5 (by kernel_rfl) hf with ⟨hcs, _⟩ | ⟨x, l, c, zs, hcs, _, hl, hm, hz, _, hcell, hwz⟩
    · simp [Value.cells] at hcs
      obtain ⟨rfl, rfl, rfl⟩ := hcs
      exact ⟨[], .inl ⟨rfl, rfl, rfl, rfl⟩⟩
    · simp [Value.cells] at hcs
      obtain ⟨rfl, rfl, rfl⟩ := hcs
      exact ⟨zs, .inr ⟨_, rfl, hl, hm, by simpa using hz, hcell, hwz⟩⟩
  obtain ⟨ae, hE⟩ := env_of hL
  clear hA0 hval0
  refine (walk a0 len0 cap0 z0 W w0 ae hE).mono fun e W' ⟨he, bel⟩ => ?_
  subst he
  exact ⟨_, rfl, _, _, _, [], _, [], hW', trodAll_mk1 (shut_bool Tryd.underlying4 _), (trodAll_cons_mk (Below.trod laidOut (by kernel_rfl) (of_decide_eq_true (by kernel_rfl)) k0 bel lt0) trodAll_mk0), rfl, bel.frame _, fun h => by cases h⟩

theorem over : Rows.fnWiderClassRow.holds Tryd.pinned (OpenSpec.ofChange Rows.fnWiderClassSpec) :=
  OpenClaim.holds_of_wide 13 Tryd.f13 rfl rfl rfl rfl rfl rfl rfl ⟨rfl, rfl, rfl, rfl, rfl⟩ rfl rfl rfl rfl rfl (by kernel_rfl) Tryd.func13 (by kernel_rfl)
    (of_decide_eq_true (by kernel_rfl)) (by unfold Func.isWrapper; first | (rw [if_pos (by decide +kernel)]; kernel_rfl) | (rw [if_neg (by decide +kernel)]; exact ⟨rfl, rfl⟩))
    (fun os started H enc _ => lifted os started H enc)

theorem proved : Rows.FnWiderClassCardSaid :=
  Claim7.holds_tied_plain_at .later [] Rows.fnWiderClassCard.laidKinds true Rows.fnWiderClassCard.stood.harness true over (fun _ h => by cases h) (by kernel_rfl) (fun _ h => by cases h) fnWiderClass_row_tie rfl ⟨rfl, rfl⟩ (by kernel_rfl) rfl
    (fun f fn hf hfn => by
      obtain rfl : f = 13 := Option.some.inj ((show Tryd.prog.funcNamed Rows.fnWiderClassRow.func = some 13 by kernel_rfl).symm.trans hf) |>.symm
      obtain rfl : fn = Tryd.f13 := (Option.some.inj (Tryd.func13.symm.trans hfn)).symm
      exact ⟨by kernel_rfl, fun j t ht => by
        rw [Tryd.params13] at ht
        have hm : t ∈ [22] := by simpa using Array.mem_of_getElem? ht
        have hall : ([22].all fun u => !Tryd.prog.wantsStandIn u) = true := by kernel_rfl
        exact (show Tryd.prog.wantsStandIn t = false by simpa using List.all_eq_true.1 hall t hm)⟩)
    (by kernel_rfl)
end Go.Proofs.YtpkhcndhckocnaaDoor.fnWiderClass


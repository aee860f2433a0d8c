/-
  A class in front of a pattern takes one character that it admits, and the pattern takes the rest: the law returns true for every input and leaves it as it was. Conditions: none.
  The frame round the walk is the kit's own (proof-skeleton.mjs).
-/
import Derived.Test.YtcoaoheakeodoaaDoorRows
import Derived.Test.YtcoaoheakeodoaaDoorHeadC
import Derived.Test.YtcoaoheakeodoaaDoorIterT
import Derived.Test.YtcoaoheakeodoaaDoorLate
import Derived.Test.YtcoaoheakeodoaaDoorDrawN
import Derived.Deep.RegionHeld3
import Derived.Test.YtcoaoheakeodoaaDoorTie
import Derived.Test.YtcoaoheakeodoaaDoorCards
import Derived.Test.YtcoaoheakeodoaaDoorLaid
import Derived.LaidMore
import Derived.Lay
import Derived.SevenTiedAt
import Derived.Stop.Joined
namespace Go.Proofs.YtcoaoheakeodoaaDoor.fnClassHead
open Go.ChangeShapes Go.WideShapes Go.ChangeAt Go.RowKit
open Go.ChangeMaps (open_string shut_string)
set_option linter.unusedVariables false

theorem put2 {P : Act → Prop} {act : Act} {d1 d2 : Option Tmp} {v1 v2 : Value} (i j : Tmp) (h1 : d1 = some i) (h2 : d2 = some j) (h : P ((act.put (some i) v1).put (some j) v2)) : P ((act.put d1 v1).put d2 v2) := by
  subst h1 h2
  exact h
set_option maxRecDepth 200000 in
theorem wpAnyH_more {P : Program} {md : Region.Mode} {ops : Array Oper} {Q : Exit → Act → World → Prop} {S S' : World → Prop} (h : ∀ w, S' w → S w) : ∀ (fuel : Nat) (listed : Array Bool) (a : Act) (w : World), wpAnyH P md ops Q S' fuel listed a w → wpAnyH P md ops Q S fuel listed a w
  | 0, _, _, _, k => k
  | fuel + 1, _, _, _, k => ⟨k.1, fun i hi => wpOp_mono (fun _ _ r => ⟨h _ r.1, wpAnyH_more h fuel _ _ _ r.2⟩) (k.2 i hi)⟩
/-- Where several ways meet: what follows is shown once. -/
theorem meet3 {C R : Nat → Nat → World → Prop} {G : Prop} (hT : (∀ h cp W, C h cp W → R h cp W) → G) (hJ : ∀ h cp W, C h cp W → R h cp W) : G := hT hJ
set_option maxHeartbeats 8000000 in
theorem walk (a : Option Addr) (len cap : Nat) (zs : List Int) (w : World) (hr : IsRow .u8 w a len cap zs) (ae : Addr) (hE : Env ae w) :
    Calls Tryd.prog 3 #[.slice a len cap] w fun e w' => e = .returned (.bool true) ∧ Below w.heap.size w w' := by
  have HR := Lib.hid hr
  have HE := Lib.hid hE
  clear hr hE
  by_cases hlen : 1048576 < len
  · have hl' : (1048576 : Int) < len := by omega
    go_enter Tryd.func3, Tryd.ntmps3
    go_wp2
    go_ret
    exact ⟨rfl, Below.refl _ _⟩
  · have hl' : ¬ (1048576 : Int) < len := by omega
    go_enter Tryd.func3, Tryd.ntmps3
    go_wp2_with fail
    refine (drawConcat_any a len cap zs _ HR.out (by omega)).mono ?_
    rintro e w1 ⟨p, q, n, rfl, hpl, hql, hnl, hb⟩
    have HE1 := Lib.hid (HE.out.on hb)
    have HB1 := Lib.hid hb
    clear hb HR HE
    go_wp2_with fail
    refine (yesStar ae w1 HE1.out).mono ?_
    rintro e w2 ⟨rfl, hb⟩
    have HE2 := Lib.hid (HE1.out.on hb)
    have HB2 := Lib.hid (HB1.out.trans (hb.mono HB1.out.size))
    clear hb HE1 HB1
    go_wp2_with fail
    refine (wellFormedB ae _ p w2 HE2.out rfl (by omega)).mono ?_
    rintro e w3 ⟨rfl, hb⟩
    have HE3 := Lib.hid (HE2.out.on hb)
    have HB3 := Lib.hid (HB2.out.trans (hb.mono HB2.out.size))
    clear hb HE2 HB2
    generalize hA : wfB p = A
    have HA1 := Lib.hid hA
    clear hA
    cases A with
    | false =>
      go_wp2
      go_ret
      exact ⟨rfl, HB3.out⟩
    | true =>
      go_wp2_with fail
      refine (wellFormedB ae _ q w3 HE3.out rfl (by omega)).mono ?_
      rintro e w4 ⟨rfl, hb⟩
      have HE4 := Lib.hid (HE3.out.on hb)
      have HB4 := Lib.hid (HB3.out.trans (hb.mono HB3.out.size))
      clear hb HE3 HB3
      generalize hA : wfB q = A
      have HA2 := Lib.hid hA
      clear hA
      cases A with
      | false =>
        go_wp2
        go_ret
        exact ⟨rfl, HB4.out⟩
      | true =>
        go_wp2_with fail
        refine (validB ae _ n w4 HE4.out rfl (by omega)).mono ?_
        rintro e w5 ⟨rfl, hb⟩
        have HE5 := Lib.hid (HE4.out.on hb)
        have HB5 := Lib.hid (HB4.out.trans (hb.mono HB4.out.size))
        clear hb HE4 HB4
        generalize hV : Lib.validD n = V
        have HV := Lib.hid hV
        clear hV
        cases V with
        | false =>
          go_wp2
          go_ret
          exact ⟨rfl, HB5.out⟩
        | true =>
          by_cases hn0 : n = []
          · subst hn0
            go_wp2
            go_ret
            exact ⟨rfl, HB5.out⟩
          have hnb : n.isEmpty = false := by cases n with | nil => exact absurd rfl hn0 | cons => rfl
          have HN0 := Lib.hid hn0
          obtain ⟨ts, hrd, _, hgood, _, _⟩ := wf_terms HA1.out
          have HBQ := Lib.hid (wf_terms HA2.out).choose_spec.2.2.2.2
          have hwt := read_weight' p ts hrd
          have hwl := weight_len ts
          have HG : Hid (∀ t ∈ ts, goodTm t) := Lib.hid hgood
          have HRD := Lib.hid hrd
          have HSC : Hid (sc (dec n).1) := Lib.hid ((valid_runes _ n (Nat.le_refl _) HV.out).1 _ (by rw [runes_ne _ hn0]; exact List.mem_cons_self))
          have hsz : (⟨n.toArray⟩ : ByteArray).size = n.length := by simp [ByteArray.size]
          have HSZ := Lib.hid hsz
          clear hrd hgood HA1 HA2 HV hsz hn0
          have hfd := fld0
          go_wp2_with fail
          refine (readB _ p w5 rfl (by omega)).mono ?_
          rintro e w6 ⟨hb, va, vn, vc, rfl, hts⟩
          obtain ⟨rfl, htm⟩ := hts ts HRD.out
          have HT := Lib.hid htm
          have HE6 := Lib.hid (HE5.out.on hb)
          have HB6 := Lib.hid (HB5.out.trans (hb.mono HB5.out.size))
          generalize rdOk p = OK
          generalize rdSet p = ST
          clear hb HE5 HB5 hts htm HRD
          go_wp2
          go_loopw [40] (fun i wr => ∃ (k : Nat), i = .int .i64 (k : Nat) ∧ k ≤ ts.length ∧ Below w6.heap.size w6 wr) (fun i _ => ts.length - (intOf i).toNat)
          case atStart => exact ⟨0, rfl, by omega, Below.refl _ _⟩
          case round =>
            obtain ⟨k, rfl, hk, hb⟩ := hrel
            have HB := Lib.hid hb
            clear hb
            by_cases hkl : k < ts.length
            · obtain ⟨t, htk⟩ : ∃ t, ts[k]? = some t := ⟨_, List.getElem?_eq_getElem hkl⟩
              obtain ⟨a', cap', e', _, hcells⟩ := HT.out.below HB.out
              obtain ⟨g, o, rv, rfl, hlo, hlt, c1, c2, c3, c4, hrg⟩ := hcells k t htk
              injection e' with e1 e2 e3
              subst e1 e3
              clear e2 hcells
              have HGT := Lib.hid (HG.out t (List.mem_of_getElem? htk))
              obtain ⟨n1, n2, n3⟩ := good_ok HGT.out
              have hwtk := weight_at' htk
              have HN3 := Lib.hid n3
              have HRG := Lib.hid hrg
              obtain ⟨ra, rcap, rfl, _⟩ := hrg
              have s1 : (k : Int) < (ts.length : Int) := by omega
              have s2 : (0 : Int) ≤ (k : Int) := by omega
              clear n3 htk
              obtain ⟨tk, tc, tn, trs⟩ := t
              simp only at c1 c2 c3 c4 n1 n2 hwtk HGT HN3 HRG
              obtain ⟨wo, hwo⟩ : ∃ x, x = wr := ⟨_, rfl⟩
              subst hwo
              have hb0 : Below wo.heap.size wo (wo.alloc (.cells #[.int .i64 (tk : Nat), .int .i32 (tc : Nat), .bool tn, .slice ra trs.length rcap] 33)) := (Below.refl _ _).alloc (Nat.le_refl _) _
              have hblk := heap_alloc_new wo (.cells #[.int .i64 (tk : Nat), .int .i32 (tc : Nat), .bool tn, .slice ra trs.length rcap] 33)
              have hwl : wo.heap.size < (wo.alloc (.cells #[.int .i64 (tk : Nat), .int .i32 (tc : Nat), .bool tn, .slice ra trs.length rcap] 33)).heap.size := by simp
              have hra := (HRG.out.low (Nat.zero_le _)).below hb0
              have HREL : Hid (∀ W, Below (wo.alloc (.cells #[.int .i64 (tk : Nat), .int .i32 (tc : Nat), .bool tn, .slice ra trs.length rcap] 33)).heap.size (wo.alloc (.cells #[.int .i64 (tk : Nat), .int .i32 (tc : Nat), .bool tn, .slice ra trs.length rcap] 33)) W → Below w6.heap.size w6 W) := Lib.hid (fun W hW => HB.out.trans ((hb0.trans (hW.mono (by omega))).mono HB.out.size))
              have HEW := Lib.hid (HE6.out.on (HB.out.trans (hb0.mono HB.out.size)))
              clear HRG hb0
              go_upto_region 11 with (fail)
              generalize hwi : wo.alloc (.cells #[.int .i64 (tk : Nat), .int .i32 (tc : Nat), .bool tn, .slice ra trs.length rcap] 33) = wi at hblk hwl hra HREL HEW ⊢
              obtain ⟨f0, f1, f2, f3, _, _, _, _⟩ := blk4 hblk
              have HRJ := Lib.hid hra
              clear hwi hblk hra
              by_cases k2 : tk = 2
              · subst k2
                have hlaw : mm (writeW ⟨2, tc, tn, trs⟩ ++ q) n = (adm ⟨2, tc, tn, trs⟩ (dec n).1 && mm q (n.drop (dec n).2)) := by
                  obtain ⟨b, n', e⟩ := List.exists_cons_of_ne_nil HN0.out
                  rw [e]
                  exact law_classHead HGT.out rfl HBQ.out b n'
                obtain ⟨cp, F, hcv, hR, hFB⟩ := conv_all n (by omega) HN0.out
                have hcut := cutsL_one HN0.out
                have hRl : (dec n).1 ≤ 2147483647 := by have := HSC.out; unfold sc at this; omega
                have hKl := dec_le n
                have hcl := cutsL_len n
                have hrl := runes_len _ n (Nat.le_refl _)
                have hcl1 : 1 < (cutsL n).length := (List.getElem?_eq_some_iff.1 hcut).1
                have hJl : (cutsL n).length ≤ 2000000 := by omega
                have hql0 := writeW_len ⟨2, tc, tn, trs⟩
                simp only at hql0
                have HWR : Hid (∀ W, Below wi.heap.size wi W → Env ae W → Calls Tryd.prog 11 #[.agg #[.int .i64 2, .int .i32 (tc : Nat), .bool tn, .slice ra trs.length rcap]] W fun e w' => e = .returned (S (writeW ⟨2, tc, tn, trs⟩)) ∧ Keep ae wi W w' (dec n).1) := Lib.hid (fun W hW hE => (write_call 0 ⟨2, tc, tn, trs⟩ (.slice ra trs.length rcap) W (HRJ.out.below hW) n1 n2 (by show trs.length ≤ _; omega) HN3.out).mono (fun e w' ⟨h1, h2⟩ => ⟨h1, Keep.of hE hW h2⟩))
                have HAD : Hid (∀ W, Below wi.heap.size wi W → Env ae W → Calls Tryd.prog 12 #[.agg #[.int .i64 2, .int .i32 (tc : Nat), .bool tn, .slice ra trs.length rcap], .int .i32 ((dec n).1 : Nat)] W fun e w' => e = .returned (.bool (adm ⟨2, tc, tn, trs⟩ (dec n).1)) ∧ Keep ae wi W w' (dec n).1) := Lib.hid (fun W hW hE => (admits_call 0 ⟨2, tc, tn, trs⟩ (.slice ra trs.length rcap) (dec n).1 W (HRJ.out.below hW) n1 hRl (by show trs.length ≤ _; omega) HN3.out).mono (fun e w' ⟨h1, h2⟩ => ⟨h1, Keep.of hE hW h2⟩))
                have HY : Hid (∀ W (P N : ByteArray) (pp nn : Bs) (m : Bool), P.data.toList = pp → N.data.toList = nn → mm pp nn = m → pp.length ≤ 1000000000 → nn.length ≤ 1000000000 → Below wi.heap.size wi W → Env ae W → Calls Tryd.prog 7 #[.string P, .string N] W fun e w' => e = .returned (.bool m) ∧ Keep ae wi W w' (dec n).1) := Lib.hid (fun W P N pp nn m hP hN hm hl1 hl2 hW hE => by
                  have h := yesB ae P N pp nn W hE hP hN (by omega) (by omega)
                  rw [hm] at h
                  exact h.mono (fun e w' ⟨h1, h2⟩ => ⟨h1, Keep.of hE hW h2⟩))
                have HCU : Hid (∀ W, Below wi.heap.size wi W → Env ae W → Calls Tryd.prog 13 #[S n] W fun e w' => (∃ g cap, e = .returned (.slice (some ⟨g, 0, none⟩) (cutsL n).length cap) ∧ w'.cell? ⟨g, 1, none⟩ = some (.int .i64 ((dec n).2 : Nat))) ∧ Keep ae wi W w' (dec n).1) := Lib.hid (fun W hW hE => (cuts_call ae n W hE (by omega)).mono (fun e w' ⟨v, h1, ⟨g, cap, h2, _, _, _, h3⟩, h4⟩ => ⟨⟨g, cap, by rw [h1, h2], h3 1 _ hcut⟩, Keep.of hE hW h4⟩))
                have HSK : Hid (∀ W, Below wi.heap.size wi W → W.cell? ⟨wo.heap.size, 0, none⟩ = some (.int .i64 2) ∧ W.cell? ⟨wo.heap.size, 1, none⟩ = some (.int .i32 (tc : Nat)) ∧ W.cell? ⟨wo.heap.size, 2, none⟩ = some (.bool tn) ∧ W.cell? ⟨wo.heap.size, 3, none⟩ = some (.slice ra trs.length rcap)) := Lib.hid (fun W hW => ⟨(hW.cell (p := ⟨wo.heap.size, 0, none⟩) (by show wo.heap.size < _; omega)).trans f0, (hW.cell (p := ⟨wo.heap.size, 1, none⟩) (by show wo.heap.size < _; omega)).trans f1, (hW.cell (p := ⟨wo.heap.size, 2, none⟩) (by show wo.heap.size < _; omega)).trans f2, (hW.cell (p := ⟨wo.heap.size, 3, none⟩) (by show wo.heap.size < _; omega)).trans f3⟩)
                have hFW : ∀ W, Below wi.heap.size wi W → Below wi.heap.size wi (F W) := fun W hW => hW.trans ((hFB W).mono hW.size)
                have HFW := Lib.hid hFW
                have HFE : Hid (∀ W, Env ae W → Env ae (F W)) := Lib.hid (fun W hE => hE.on (hFB W))
                have g0 : ∀ W, Below wi.heap.size wi W → (F W).cell? ⟨wo.heap.size, 0, none⟩ = some (.int .i64 2) := fun W hW => (HSK.out _ (hFW W hW)).1
                have g1 : ∀ W, Below wi.heap.size wi W → (F W).cell? ⟨wo.heap.size, 1, none⟩ = some (.int .i32 (tc : Nat)) := fun W hW => (HSK.out _ (hFW W hW)).2.1
                have g2 : ∀ W, Below wi.heap.size wi W → (F W).cell? ⟨wo.heap.size, 2, none⟩ = some (.bool tn) := fun W hW => (HSK.out _ (hFW W hW)).2.2.1
                have g3 : ∀ W, Below wi.heap.size wi W → (F W).cell? ⟨wo.heap.size, 3, none⟩ = some (.slice ra trs.length rcap) := fun W hW => (HSK.out _ (hFW W hW)).2.2.2
                have hB0 : Below wi.heap.size wi wi.drew := ⟨rfl, rfl, rfl, Nat.le_refl _, fun _ _ => rfl⟩
                have hE0 : Env ae wi.drew := HEW.out.on hB0
                have hEi : Env ae wi := HEW.out
                have hBi := Below.refl wi.heap.size wi
                generalize writeW ⟨2, tc, tn, trs⟩ = Q1 at *
                generalize adm ⟨2, tc, tn, trs⟩ (dec n).1 = A1 at *
                obtain ⟨M1, hM1⟩ : ∃ m, m = mm (Q1 ++ q) n := ⟨_, rfl⟩
                obtain ⟨M2, hM2⟩ : ∃ m, m = mm q (n.drop (dec n).2) := ⟨_, rfl⟩
                rw [← hM1, ← hM2] at hlaw
                have HM1 := Lib.hid hM1.symm
                have HM2 := Lib.hid hM2.symm
                obtain ⟨T, hx⟩ : ∃ T : ByteArray, (⟨n.toArray⟩ : ByteArray).extract (dec n).2 n.length = T := ⟨_, rfl⟩
                have HTD : Hid (T.data.toList = n.drop (dec n).2) := Lib.hid (by rw [← hx]; exact ba_drop n _ _ rfl)
                have hrr : 0 < (runes n).length := by rw [runes_ne _ HN0.out]; simp
                have z0 : (0 : Int) < ((runes n).length : Int) := by omega
                generalize (runes n).length = RL at *
                clear hM1 hM2 hFW hcut hFB hcl hrl HGT HN3 HRJ hwl
                generalize (cutsL n).length = J at *
                have hl1 : (Q1 ++ q).length ≤ 1000000000 := by rw [List.length_append]; omega
                have hl2 : n.length ≤ 1000000000 := by omega
                have hl3 : q.length ≤ 1000000000 := by omega
                have hl4 : (n.drop (dec n).2).length ≤ 1000000000 := by rw [List.length_drop]; omega
                have z1 : (1 : Int) < (J : Int) := by omega
                have z2 : ((dec n).2 : Int) ≤ (n.length : Int) := by omega
                have z3 : (0 : Int) ≤ ((dec n).2 : Int) := by omega
                generalize (dec n).2 = K at *
                generalize (dec n).1 = R at *
                subst hlaw
                have hcc : ¬ 9223372036854775807 < List.length Q1 + q.length := by rw [List.length_append] at hl1; omega
                go_wp2_with fail
                refine wp_region_noPanic ?_
                refine wp_region_held_drew (S := fun W => Below wi.heap.size wi W ∧ Env ae W) (by kernel_rfl) ⟨hB0, hE0⟩ (fun hHeld => ?_)
                refine wpAnyH_take (i := 0) (oi := _) (v := ?_) rfl (by kernel_rfl) (by kernel_rfl) (by kernel_rfl) (fun _ _ _ h => h) (Or.inl ⟨by rfl, ?_⟩) (by assumption) ?_
                rotate_left
                · (intro w hSw; simp only [List.getElem_toArray, List.getElem_cons_zero]; (try dsimp only at hSw); go_simp; try (with_reducible rfl))
                simp only [Act.put, List.setIfInBounds_toArray, List.set_cons_zero, List.set_cons_succ, List.getElem_toArray, List.getElem_cons_zero]
                refine wpAnyH_take (i := 1) (oi := _) (v := ?_) rfl (by kernel_rfl) (by kernel_rfl) (by kernel_rfl) (fun _ _ _ h => h) (Or.inl ⟨by rfl, ?_⟩) (by assumption) ?_
                rotate_left
                · (intro w hSw; simp only [List.getElem_toArray, List.getElem_cons_zero, List.getElem_cons_succ]; (try dsimp only at hSw); obtain ⟨c0, c1, c2, c3⟩ := HSK.out w hSw.1; go_simp; try (with_reducible rfl))
                simp only [Act.put, List.setIfInBounds_toArray, List.set_cons_zero, List.set_cons_succ, List.getElem_toArray, List.getElem_cons_zero, List.getElem_cons_succ]
                refine wpAnyH_take (i := 2) (oi := _) (v := ?_) rfl (by kernel_rfl) (by kernel_rfl) (by kernel_rfl) (fun _ _ _ h => h) (Or.inl ⟨by rfl, ?_⟩) (by assumption) ?_
                rotate_left
                · (intro w hSw; simp only [List.getElem_toArray, List.getElem_cons_zero, List.getElem_cons_succ]; (try dsimp only at hSw); go_simp; try (with_reducible rfl))
                simp only [Act.put, List.setIfInBounds_toArray, List.set_cons_zero, List.set_cons_succ, List.getElem_toArray, List.getElem_cons_zero, List.getElem_cons_succ]
                refine wpAnyH_take (i := 3) (oi := _) (v := ?_) rfl (by kernel_rfl) (by kernel_rfl) (by kernel_rfl) (fun _ _ _ h => h) (Or.inl ⟨by rfl, ?_⟩) (by assumption) ?_
                rotate_left
                · (intro w hSw; simp only [List.getElem_toArray, List.getElem_cons_zero, List.getElem_cons_succ]; (try dsimp only at hSw); go_simp; try (with_reducible rfl))
                simp only [Act.put, List.setIfInBounds_toArray, List.set_cons_zero, List.set_cons_succ, List.getElem_toArray, List.getElem_cons_zero, List.getElem_cons_succ]
                refine wpAnyH_take (i := 4) (oi := _) (v := ?_) rfl (by kernel_rfl) (by kernel_rfl) (by kernel_rfl) (fun _ _ _ h => h) (Or.inl ⟨by rfl, ?_⟩) (by assumption) ?_
                rotate_left
                · (intro w hSw; simp only [List.getElem_toArray, List.getElem_cons_zero, List.getElem_cons_succ]; (try dsimp only at hSw); obtain ⟨c0, c1, c2, c3⟩ := HSK.out w hSw.1; go_simp; try (with_reducible rfl))
                simp only [Act.put, List.setIfInBounds_toArray, List.set_cons_zero, List.set_cons_succ, List.getElem_toArray, List.getElem_cons_zero, List.getElem_cons_succ]
                refine wpAnyH_take (i := 6) (oi := _) (v := ?_) rfl (by kernel_rfl) (by kernel_rfl) (by kernel_rfl) (fun _ _ _ h => h) (Or.inl ⟨by rfl, ?_⟩) (by assumption) ?_
                rotate_left
                · (intro w hSw; simp only [List.getElem_toArray, List.getElem_cons_zero, List.getElem_cons_succ]; (try dsimp only at hSw); go_simp; try (with_reducible rfl))
                simp only [Act.put, List.setIfInBounds_toArray, List.set_cons_zero, List.set_cons_succ, List.getElem_toArray, List.getElem_cons_zero, List.getElem_cons_succ]
                refine wpAnyH_take (i := 8) (oi := _) (v := ?_) rfl (by kernel_rfl) (by kernel_rfl) (by kernel_rfl) (fun _ _ _ h => h) (Or.inl ⟨by rfl, ?_⟩) (by assumption) ?_
                rotate_left
                · (intro w hSw; simp only [List.getElem_toArray, List.getElem_cons_zero, List.getElem_cons_succ]; (try dsimp only at hSw); go_simp; try (with_reducible rfl))
                simp only [Act.put, List.setIfInBounds_toArray, List.set_cons_zero, List.set_cons_succ, List.getElem_toArray, List.getElem_cons_zero, List.getElem_cons_succ]
                refine wpAnyH_take (i := 10) (oi := _) (v := ?_) rfl (by kernel_rfl) (by kernel_rfl) (by kernel_rfl) (fun _ _ _ h => h) (Or.inl ⟨by rfl, ?_⟩) (by assumption) ?_
                rotate_left
                · (intro w hSw; simp only [List.getElem_toArray, List.getElem_cons_zero, List.getElem_cons_succ]; (try dsimp only at hSw); obtain ⟨c0, c1, c2, c3⟩ := HSK.out w hSw.1; go_simp; try (with_reducible rfl))
                simp only [Act.put, List.setIfInBounds_toArray, List.set_cons_zero, List.set_cons_succ, List.getElem_toArray, List.getElem_cons_zero, List.getElem_cons_succ]
                refine wpAnyH_take (i := 11) (oi := _) (v := ?_) rfl (by kernel_rfl) (by kernel_rfl) (by kernel_rfl) (fun _ _ _ h => h) (Or.inl ⟨by rfl, ?_⟩) (by assumption) ?_
                rotate_left
                · (intro w hSw; simp only [List.getElem_toArray, List.getElem_cons_zero, List.getElem_cons_succ]; (try dsimp only at hSw); go_simp; try (with_reducible rfl))
                simp only [Act.put, List.setIfInBounds_toArray, List.set_cons_zero, List.set_cons_succ, List.getElem_toArray, List.getElem_cons_zero, List.getElem_cons_succ]
                refine' meet3 (C := fun h (_ : Nat) W => (Below wi.heap.size wi W ∧ Env ae W) ∧ W.cell? ⟨h, 0, none⟩ = some (.int .i32 (R : Nat))) (R := _) (fun hJ => ?_) ?_
                rotate_left
                · refine wpAnyH_ready (rs := [5, 12]) (by kernel_rfl) (by simp) ?_
                  refine AllReadyH.cons (o := _) rfl (fun K hK => ?_) ?_
                  · simp only [List.getElem_toArray, List.getElem_cons_zero, List.getElem_cons_succ]
                    go_simp
                    go_at_call 11
                    refine (HWR.out _ hHeld.1 hHeld.2).mono ?_
                    rintro e w5 ⟨rfl, hE9, hB9, hk9⟩
                    refine hK.out _ _ ⟨hB9, hE9⟩ (fun hHeld => ?_)
                    clear hK K
                    try simp only [Act.put, List.setIfInBounds_toArray, List.set_cons_zero, List.set_cons_succ, List.getElem_toArray, List.getElem_cons_zero, List.getElem_cons_succ]
                    refine wpAnyH_take (i := 7) (oi := _) (v := ?_) rfl (by kernel_rfl) (by kernel_rfl) (by kernel_rfl) (fun _ _ _ h => h) (Or.inl ⟨by rfl, ?_⟩) (by assumption) ?_
                    rotate_left
                    · (intro w hSw; simp only [List.getElem_toArray, List.getElem_cons_zero, List.getElem_cons_succ]; (try dsimp only at hSw); go_simp; try (with_reducible rfl))
                    simp only [Act.put, List.setIfInBounds_toArray, List.set_cons_zero, List.set_cons_succ, List.getElem_toArray, List.getElem_cons_zero, List.getElem_cons_succ]
                    refine wpAnyH_ready (rs := [9, 12]) (by kernel_rfl) (by simp) ?_
                    refine AllReadyH.cons (o := _) rfl (fun K hK => ?_) ?_
                    · simp only [List.getElem_toArray, List.getElem_cons_zero, List.getElem_cons_succ]
                      go_simp
                      go_at_call 7
                      refine (HY.out _ _ _ (Q1 ++ q) n _ ?_ rfl HM1.out hl1 hl2 hHeld.1 hHeld.2).mono ?_
                      · simp; done
                      rintro e w9 ⟨rfl, hE9, hB9, hk9⟩
                      refine hK.out _ _ ⟨hB9, hE9⟩ (fun hHeld => ?_)
                      clear hK K
                      try simp only [Act.put, List.setIfInBounds_toArray, List.set_cons_zero, List.set_cons_succ, List.getElem_toArray, List.getElem_cons_zero, List.getElem_cons_succ]
                      refine wpAnyH_ready (rs := [12]) (by kernel_rfl) (by simp) ?_
                      refine AllReadyH.cons (o := _) rfl (fun K hK => ?_) ?_
                      · simp only [List.getElem_toArray, List.getElem_cons_zero, List.getElem_cons_succ]
                        go_simp
                        refine hK.out _ _ ⟨HFW.out _ hHeld.1, HFE.out _ hHeld.2⟩ (fun hHeld => ?_)
                        clear hK K
                        try simp only [Act.put, List.setIfInBounds_toArray, List.set_cons_zero, List.set_cons_succ, List.getElem_toArray, List.getElem_cons_zero, List.getElem_cons_succ]
                        have hc := hR (w9)
                        refine wpAnyH_more (S' := fun W => (Below wi.heap.size wi W ∧ Env ae W) ∧ W.cell? ⟨(w9).heap.size, 0, none⟩ = some (.int .i32 (R : Nat))) (fun w h => h.1) _ _ _ _ ?_
                        have hHeld2 : (Below wi.heap.size wi (F (w9)) ∧ Env ae (F (w9))) ∧ (F (w9)).cell? ⟨(w9).heap.size, 0, none⟩ = some (.int .i32 (R : Nat)) := ⟨hHeld, hc⟩
                        clear hHeld hc
                        have hHeld := hHeld2
                        clear hHeld2
                        refine wpAnyH_take (i := 13) (oi := _) (v := ?_) rfl (by kernel_rfl) (by kernel_rfl) (by kernel_rfl) (fun _ _ _ h => h) (Or.inl ⟨by rfl, ?_⟩) (by assumption) ?_
                        rotate_left
                        · (intro w hSw; simp only [List.getElem_toArray, List.getElem_cons_zero, List.getElem_cons_succ]; (try dsimp only at hSw); go_simp; try (with_reducible rfl))
                        simp only [Act.put, List.setIfInBounds_toArray, List.set_cons_zero, List.set_cons_succ, List.getElem_toArray, List.getElem_cons_zero, List.getElem_cons_succ]
                        refine wpAnyH_take (i := 14) (oi := _) (v := ?_) rfl (by kernel_rfl) (by kernel_rfl) (by kernel_rfl) (fun _ _ _ h => h) (Or.inl ⟨by rfl, ?_⟩) (by assumption) ?_
                        rotate_left
                        · (intro w hSw; simp only [List.getElem_toArray, List.getElem_cons_zero, List.getElem_cons_succ]; (try dsimp only at hSw); obtain ⟨_, c0⟩ := hSw; go_simp; try (with_reducible rfl))
                        simp only [Act.put, List.setIfInBounds_toArray, List.set_cons_zero, List.set_cons_succ, List.getElem_toArray, List.getElem_cons_zero, List.getElem_cons_succ]
                        generalize cp (w9) = cq
                        generalize hW : F (w9) = WW at hHeld ⊢
                        generalize (w9).heap.size = hh at hHeld ⊢
                        exact hJ hh cq _ hHeld
                      exact AllReadyH.nil
                    refine AllReadyH.cons (o := _) rfl (fun K hK => ?_) ?_
                    · simp only [List.getElem_toArray, List.getElem_cons_zero, List.getElem_cons_succ]
                      go_simp
                      refine hK.out _ _ ⟨HFW.out _ hHeld.1, HFE.out _ hHeld.2⟩ (fun hHeld => ?_)
                      clear hK K
                      try simp only [Act.put, List.setIfInBounds_toArray, List.set_cons_zero, List.set_cons_succ, List.getElem_toArray, List.getElem_cons_zero, List.getElem_cons_succ]
                      have hc := hR (w5)
                      refine wpAnyH_more (S' := fun W => (Below wi.heap.size wi W ∧ Env ae W) ∧ W.cell? ⟨(w5).heap.size, 0, none⟩ = some (.int .i32 (R : Nat))) (fun w h => h.1) _ _ _ _ ?_
                      have hHeld2 : (Below wi.heap.size wi (F (w5)) ∧ Env ae (F (w5))) ∧ (F (w5)).cell? ⟨(w5).heap.size, 0, none⟩ = some (.int .i32 (R : Nat)) := ⟨hHeld, hc⟩
                      clear hHeld hc
                      have hHeld := hHeld2
                      clear hHeld2
                      refine wpAnyH_take (i := 13) (oi := _) (v := ?_) rfl (by kernel_rfl) (by kernel_rfl) (by kernel_rfl) (fun _ _ _ h => h) (Or.inl ⟨by rfl, ?_⟩) (by assumption) ?_
                      rotate_left
                      · (intro w hSw; simp only [List.getElem_toArray, List.getElem_cons_zero, List.getElem_cons_succ]; (try dsimp only at hSw); go_simp; try (with_reducible rfl))
                      simp only [Act.put, List.setIfInBounds_toArray, List.set_cons_zero, List.set_cons_succ, List.getElem_toArray, List.getElem_cons_zero, List.getElem_cons_succ]
                      refine wpAnyH_take (i := 14) (oi := _) (v := ?_) rfl (by kernel_rfl) (by kernel_rfl) (by kernel_rfl) (fun _ _ _ h => h) (Or.inl ⟨by rfl, ?_⟩) (by assumption) ?_
                      rotate_left
                      · (intro w hSw; simp only [List.getElem_toArray, List.getElem_cons_zero, List.getElem_cons_succ]; (try dsimp only at hSw); obtain ⟨_, c0⟩ := hSw; go_simp; try (with_reducible rfl))
                      simp only [Act.put, List.setIfInBounds_toArray, List.set_cons_zero, List.set_cons_succ, List.getElem_toArray, List.getElem_cons_zero, List.getElem_cons_succ]
                      refine wpAnyH_ready (rs := [9]) (by kernel_rfl) (by simp) ?_
                      refine AllReadyH.cons (o := _) rfl (fun K hK => ?_) ?_
                      · simp only [List.getElem_toArray, List.getElem_cons_zero, List.getElem_cons_succ]
                        go_simp
                        go_at_call 7
                        refine (HY.out _ _ _ (Q1 ++ q) n _ ?_ rfl HM1.out hl1 hl2 hHeld.1.1 hHeld.1.2).mono ?_
                        · simp; done
                        rintro e w9 ⟨rfl, hE9, hB9, hk9⟩
                        refine hK.out _ _ ⟨⟨hB9, hE9⟩, hk9 _ hHeld.2⟩ (fun hHeld => ?_)
                        clear hK K
                        try simp only [Act.put, List.setIfInBounds_toArray, List.set_cons_zero, List.set_cons_succ, List.getElem_toArray, List.getElem_cons_zero, List.getElem_cons_succ]
                        generalize cp (w5) = cq
                        skip
                        generalize (w5).heap.size = hh at hHeld ⊢
                        exact hJ hh cq _ hHeld
                      exact AllReadyH.nil
                    exact AllReadyH.nil
                  refine AllReadyH.cons (o := _) rfl (fun K hK => ?_) ?_
                  · simp only [List.getElem_toArray, List.getElem_cons_zero, List.getElem_cons_succ]
                    go_simp
                    refine hK.out _ _ ⟨HFW.out _ hHeld.1, HFE.out _ hHeld.2⟩ (fun hHeld => ?_)
                    clear hK K
                    try simp only [Act.put, List.setIfInBounds_toArray, List.set_cons_zero, List.set_cons_succ, List.getElem_toArray, List.getElem_cons_zero, List.getElem_cons_succ]
                    have hc := hR (wi.drew)
                    refine wpAnyH_more (S' := fun W => (Below wi.heap.size wi W ∧ Env ae W) ∧ W.cell? ⟨wi.heap.size, 0, none⟩ = some (.int .i32 (R : Nat))) (fun w h => h.1) _ _ _ _ ?_
                    have hHeld2 : (Below wi.heap.size wi (F (wi.drew)) ∧ Env ae (F (wi.drew))) ∧ (F (wi.drew)).cell? ⟨wi.heap.size, 0, none⟩ = some (.int .i32 (R : Nat)) := ⟨hHeld, hc⟩
                    clear hHeld hc
                    have hHeld := hHeld2
                    clear hHeld2
                    refine wpAnyH_take (i := 13) (oi := _) (v := ?_) rfl (by kernel_rfl) (by kernel_rfl) (by kernel_rfl) (fun _ _ _ h => h) (Or.inl ⟨by rfl, ?_⟩) (by assumption) ?_
                    rotate_left
                    · (intro w hSw; simp only [List.getElem_toArray, List.getElem_cons_zero, List.getElem_cons_succ]; (try dsimp only at hSw); go_simp; try (with_reducible rfl))
                    simp only [Act.put, List.setIfInBounds_toArray, List.set_cons_zero, List.set_cons_succ, List.getElem_toArray, List.getElem_cons_zero, List.getElem_cons_succ]
                    refine wpAnyH_take (i := 14) (oi := _) (v := ?_) rfl (by kernel_rfl) (by kernel_rfl) (by kernel_rfl) (fun _ _ _ h => h) (Or.inl ⟨by rfl, ?_⟩) (by assumption) ?_
                    rotate_left
                    · (intro w hSw; simp only [List.getElem_toArray, List.getElem_cons_zero, List.getElem_cons_succ]; (try dsimp only at hSw); obtain ⟨_, c0⟩ := hSw; go_simp; try (with_reducible rfl))
                    simp only [Act.put, List.setIfInBounds_toArray, List.set_cons_zero, List.set_cons_succ, List.getElem_toArray, List.getElem_cons_zero, List.getElem_cons_succ]
                    refine wpAnyH_ready (rs := [5]) (by kernel_rfl) (by simp) ?_
                    refine AllReadyH.cons (o := _) rfl (fun K hK => ?_) ?_
                    · simp only [List.getElem_toArray, List.getElem_cons_zero, List.getElem_cons_succ]
                      go_simp
                      go_at_call 11
                      refine (HWR.out _ hHeld.1.1 hHeld.1.2).mono ?_
                      rintro e w5 ⟨rfl, hE9, hB9, hk9⟩
                      refine hK.out _ _ ⟨⟨hB9, hE9⟩, hk9 _ hHeld.2⟩ (fun hHeld => ?_)
                      clear hK K
                      try simp only [Act.put, List.setIfInBounds_toArray, List.set_cons_zero, List.set_cons_succ, List.getElem_toArray, List.getElem_cons_zero, List.getElem_cons_succ]
                      refine wpAnyH_take (i := 7) (oi := _) (v := ?_) rfl (by kernel_rfl) (by kernel_rfl) (by kernel_rfl) (fun _ _ _ h => h) (Or.inl ⟨by rfl, ?_⟩) (by assumption) ?_
                      rotate_left
                      · (intro w hSw; simp only [List.getElem_toArray, List.getElem_cons_zero, List.getElem_cons_succ]; (try dsimp only at hSw); go_simp; try (with_reducible rfl))
                      simp only [Act.put, List.setIfInBounds_toArray, List.set_cons_zero, List.set_cons_succ, List.getElem_toArray, List.getElem_cons_zero, List.getElem_cons_succ]
                      refine wpAnyH_ready (rs := [9]) (by kernel_rfl) (by simp) ?_
                      refine AllReadyH.cons (o := _) rfl (fun K hK => ?_) ?_
                      · simp only [List.getElem_toArray, List.getElem_cons_zero, List.getElem_cons_succ]
                        go_simp
                        go_at_call 7
                        refine (HY.out _ _ _ (Q1 ++ q) n _ ?_ rfl HM1.out hl1 hl2 hHeld.1.1 hHeld.1.2).mono ?_
                        · simp; done
                        rintro e w9 ⟨rfl, hE9, hB9, hk9⟩
                        refine hK.out _ _ ⟨⟨hB9, hE9⟩, hk9 _ hHeld.2⟩ (fun hHeld => ?_)
                        clear hK K
                        try simp only [Act.put, List.setIfInBounds_toArray, List.set_cons_zero, List.set_cons_succ, List.getElem_toArray, List.getElem_cons_zero, List.getElem_cons_succ]
                        exact hJ wi.heap.size (cp wi.drew) _ hHeld
                      exact AllReadyH.nil
                    exact AllReadyH.nil
                  exact AllReadyH.nil
                · intro h cq W hHeld0
                  have hHeld : (Below wi.heap.size wi W ∧ Env ae W) ∧ W.cell? ⟨h, 0, none⟩ = some (.int .i32 (R : Nat)) := hHeld0
                  clear hHeld0
                  refine wpAnyH_ready (rs := [15]) (by kernel_rfl) (by simp) ?_
                  refine AllReadyH.cons (o := _) rfl (fun K hK => ?_) ?_
                  · simp only [List.getElem_toArray, List.getElem_cons_zero, List.getElem_cons_succ]
                    go_simp
                    go_at_call 12
                    refine (HAD.out _ hHeld.1.1 hHeld.1.2).mono ?_
                    rintro e w15 ⟨rfl, hE9, hB9, hk9⟩
                    refine hK.out _ _ ⟨⟨hB9, hE9⟩, hk9 _ hHeld.2⟩ (fun hHeld => ?_)
                    clear hK K
                    try simp only [Act.put, List.setIfInBounds_toArray, List.set_cons_zero, List.set_cons_succ, List.getElem_toArray, List.getElem_cons_zero, List.getElem_cons_succ]
                    cases A1 with
                    | false =>
                      refine wpAnyH_take (i := 16) (oi := _) (v := ?_) rfl (by kernel_rfl) (by kernel_rfl) (by kernel_rfl) (fun _ _ _ h => h) (Or.inl ⟨by rfl, ?_⟩) (by assumption) ?_
                      rotate_left
                      · (intro w hSw; simp only [List.getElem_toArray, List.getElem_cons_zero, List.getElem_cons_succ]; (try dsimp only at hSw); go_simp; try (with_reducible rfl))
                      simp only [Act.put, List.setIfInBounds_toArray, List.set_cons_zero, List.set_cons_succ, List.getElem_toArray, List.getElem_cons_zero, List.getElem_cons_succ]
                      refine wpAnyH_take (i := 17) (oi := _) (v := undef) rfl (by kernel_rfl) (by kernel_rfl) (by kernel_rfl) (fun _ _ _ h => h) (Or.inr ⟨by rfl, rfl⟩) (by assumption) ?_
                      simp only [Act.put, List.setIfInBounds_toArray, List.set_cons_zero, List.set_cons_succ, List.getElem_toArray, List.getElem_cons_zero, List.getElem_cons_succ]
                      refine wpAnyH_take (i := 18) (oi := _) (v := undef) rfl (by kernel_rfl) (by kernel_rfl) (by kernel_rfl) (fun _ _ _ h => h) (Or.inr ⟨by rfl, rfl⟩) (by assumption) ?_
                      simp only [Act.put, List.setIfInBounds_toArray, List.set_cons_zero, List.set_cons_succ, List.getElem_toArray, List.getElem_cons_zero, List.getElem_cons_succ]
                      refine wpAnyH_take (i := 19) (oi := _) (v := undef) rfl (by kernel_rfl) (by kernel_rfl) (by kernel_rfl) (fun _ _ _ h => h) (Or.inr ⟨by rfl, rfl⟩) (by assumption) ?_
                      simp only [Act.put, List.setIfInBounds_toArray, List.set_cons_zero, List.set_cons_succ, List.getElem_toArray, List.getElem_cons_zero, List.getElem_cons_succ]
                      refine wpAnyH_take (i := 20) (oi := _) (v := undef) rfl (by kernel_rfl) (by kernel_rfl) (by kernel_rfl) (fun _ _ _ h => h) (Or.inr ⟨by rfl, rfl⟩) (by assumption) ?_
                      simp only [Act.put, List.setIfInBounds_toArray, List.set_cons_zero, List.set_cons_succ, List.getElem_toArray, List.getElem_cons_zero, List.getElem_cons_succ]
                      refine wpAnyH_take (i := 21) (oi := _) (v := undef) rfl (by kernel_rfl) (by kernel_rfl) (by kernel_rfl) (fun _ _ _ h => h) (Or.inr ⟨by rfl, rfl⟩) (by assumption) ?_
                      simp only [Act.put, List.setIfInBounds_toArray, List.set_cons_zero, List.set_cons_succ, List.getElem_toArray, List.getElem_cons_zero, List.getElem_cons_succ]
                      refine wpAnyH_take (i := 22) (oi := _) (v := undef) rfl (by kernel_rfl) (by kernel_rfl) (by kernel_rfl) (fun _ _ _ h => h) (Or.inr ⟨by rfl, rfl⟩) (by assumption) ?_
                      simp only [Act.put, List.setIfInBounds_toArray, List.set_cons_zero, List.set_cons_succ, List.getElem_toArray, List.getElem_cons_zero, List.getElem_cons_succ]
                      refine wpAnyH_take (i := 23) (oi := _) (v := undef) rfl (by kernel_rfl) (by kernel_rfl) (by kernel_rfl) (fun _ _ _ h => h) (Or.inr ⟨by rfl, rfl⟩) (by assumption) ?_
                      simp only [Act.put, List.setIfInBounds_toArray, List.set_cons_zero, List.set_cons_succ, List.getElem_toArray, List.getElem_cons_zero, List.getElem_cons_succ]
                      refine wpAnyH_take (i := 24) (oi := _) (v := undef) rfl (by kernel_rfl) (by kernel_rfl) (by kernel_rfl) (fun _ _ _ h => h) (Or.inr ⟨by rfl, rfl⟩) (by assumption) ?_
                      simp only [Act.put, List.setIfInBounds_toArray, List.set_cons_zero, List.set_cons_succ, List.getElem_toArray, List.getElem_cons_zero, List.getElem_cons_succ]
                      refine wpAnyH_take (i := 25) (oi := _) (v := ?_) rfl (by kernel_rfl) (by kernel_rfl) (by kernel_rfl) (fun _ _ _ h => h) (Or.inl ⟨by rfl, ?_⟩) (by assumption) ?_
                      rotate_left
                      · (intro w hSw; simp only [List.getElem_toArray, List.getElem_cons_zero, List.getElem_cons_succ]; (try dsimp only at hSw); go_simp; try (with_reducible rfl))
                      simp only [Act.put, List.setIfInBounds_toArray, List.set_cons_zero, List.set_cons_succ, List.getElem_toArray, List.getElem_cons_zero, List.getElem_cons_succ]
                      refine wpAnyH_take (i := 26) (oi := _) (v := ?_) rfl (by kernel_rfl) (by kernel_rfl) (by kernel_rfl) (fun _ _ _ h => h) (Or.inl ⟨by rfl, ?_⟩) (by assumption) ?_
                      rotate_left
                      · (intro w hSw; simp only [List.getElem_toArray, List.getElem_cons_zero, List.getElem_cons_succ]; (try dsimp only at hSw); go_simp; try (with_reducible rfl))
                      simp only [Act.put, List.setIfInBounds_toArray, List.set_cons_zero, List.set_cons_succ, List.getElem_toArray, List.getElem_cons_zero, List.getElem_cons_succ]
                      refine wpAnyH_take (i := 27) (oi := _) (v := ?_) rfl (by kernel_rfl) (by kernel_rfl) (by kernel_rfl) (fun _ _ _ h => h) (Or.inl ⟨by rfl, ?_⟩) (by assumption) ?_
                      rotate_left
                      · (intro w hSw; simp only [List.getElem_toArray, List.getElem_cons_zero, List.getElem_cons_succ]; (try dsimp only at hSw); go_simp; try (with_reducible rfl))
                      simp only [Act.put, List.setIfInBounds_toArray, List.set_cons_zero, List.set_cons_succ, List.getElem_toArray, List.getElem_cons_zero, List.getElem_cons_succ]
                      refine wpAnyH_done (by kernel_rfl) ?_ _
                      refine NoPanic.normal ?_
                      go_wp2
                      go_roundw
                      case rel => first | exact ⟨k + 1, by go_num, by omega, HREL.out _ hHeld.1.1⟩ | ((repeat apply Exists.intro); exact ⟨⟨k + 1, by go_num, by omega, HREL.out _ hHeld.1.1⟩, rfl⟩)
                      case measure => simp [intOf]; omega
                    | true =>
                      refine wpAnyH_take (i := 16) (oi := _) (v := ?_) rfl (by kernel_rfl) (by kernel_rfl) (by kernel_rfl) (fun _ _ _ h => h) (Or.inl ⟨by rfl, ?_⟩) (by assumption) ?_
                      rotate_left
                      · (intro w hSw; simp only [List.getElem_toArray, List.getElem_cons_zero, List.getElem_cons_succ]; (try dsimp only at hSw); go_simp; try (with_reducible rfl))
                      simp only [Act.put, List.setIfInBounds_toArray, List.set_cons_zero, List.set_cons_succ, List.getElem_toArray, List.getElem_cons_zero, List.getElem_cons_succ]
                      refine wpAnyH_take (i := 17) (oi := _) (v := ?_) rfl (by kernel_rfl) (by kernel_rfl) (by kernel_rfl) (fun _ _ _ h => h) (Or.inl ⟨by rfl, ?_⟩) (by assumption) ?_
                      rotate_left
                      · (intro w hSw; simp only [List.getElem_toArray, List.getElem_cons_zero, List.getElem_cons_succ]; (try dsimp only at hSw); go_simp; try (with_reducible rfl))
                      simp only [Act.put, List.setIfInBounds_toArray, List.set_cons_zero, List.set_cons_succ, List.getElem_toArray, List.getElem_cons_zero, List.getElem_cons_succ]
                      refine wpAnyH_take (i := 18) (oi := _) (v := ?_) rfl (by kernel_rfl) (by kernel_rfl) (by kernel_rfl) (fun _ _ _ h => h) (Or.inl ⟨by rfl, ?_⟩) (by assumption) ?_
                      rotate_left
                      · (intro w hSw; simp only [List.getElem_toArray, List.getElem_cons_zero, List.getElem_cons_succ]; (try dsimp only at hSw); go_simp; try (with_reducible rfl))
                      simp only [Act.put, List.setIfInBounds_toArray, List.set_cons_zero, List.set_cons_succ, List.getElem_toArray, List.getElem_cons_zero, List.getElem_cons_succ]
                      refine wpAnyH_take (i := 19) (oi := _) (v := ?_) rfl (by kernel_rfl) (by kernel_rfl) (by kernel_rfl) (fun _ _ _ h => h) (Or.inl ⟨by rfl, ?_⟩) (by assumption) ?_
                      rotate_left
                      · (intro w hSw; simp only [List.getElem_toArray, List.getElem_cons_zero, List.getElem_cons_succ]; (try dsimp only at hSw); go_simp; try (with_reducible rfl))
                      simp only [Act.put, List.setIfInBounds_toArray, List.set_cons_zero, List.set_cons_succ, List.getElem_toArray, List.getElem_cons_zero, List.getElem_cons_succ]
                      refine wpAnyH_ready (rs := [20]) (by kernel_rfl) (by simp) ?_
                      refine AllReadyH.cons (o := _) rfl (fun K hK => ?_) ?_
                      · simp only [List.getElem_toArray, List.getElem_cons_zero, List.getElem_cons_succ]
                        go_simp
                        go_at_call 13
                        refine (HCU.out _ hHeld.1.1 hHeld.1.2).mono ?_
                        rintro e w20 ⟨⟨gc, cc, rfl, ck⟩, hE9, hB9, hk9⟩
                        refine hK.out _ _ ⟨⟨hB9, hE9⟩, hk9 _ hHeld.2⟩ (fun hHeld => ?_)
                        clear hK K
                        try simp only [Act.put, List.setIfInBounds_toArray, List.set_cons_zero, List.set_cons_succ, List.getElem_toArray, List.getElem_cons_zero, List.getElem_cons_succ]
                        refine wpAnyH_take (i := 21) (oi := _) (v := ?_) rfl (by kernel_rfl) (by kernel_rfl) (by kernel_rfl) (fun _ _ _ h => h) (Or.inl ⟨by rfl, ?_⟩) (by assumption) ?_
                        rotate_left
                        · (intro w hSw; simp only [List.getElem_toArray, List.getElem_cons_zero, List.getElem_cons_succ]; (try dsimp only at hSw); go_simp; try (with_reducible rfl))
                        simp only [Act.put, List.setIfInBounds_toArray, List.set_cons_zero, List.set_cons_succ, List.getElem_toArray, List.getElem_cons_zero, List.getElem_cons_succ]
                        refine wpAnyH_ready (rs := [22]) (by kernel_rfl) (by simp) ?_
                        refine AllReadyH.cons (o := _) rfl (fun K hK => ?_) ?_
                        · simp only [List.getElem_toArray, List.getElem_cons_zero, List.getElem_cons_succ]
                          go_simp
                          refine hK.out _ _ hHeld (fun hHeld => ?_)
                          clear hK K
                          try simp only [Act.put, List.setIfInBounds_toArray, List.set_cons_zero, List.set_cons_succ, List.getElem_toArray, List.getElem_cons_zero, List.getElem_cons_succ]
                          refine wpAnyH_take (i := 23) (oi := _) (v := ?_) rfl (by kernel_rfl) (by kernel_rfl) (by kernel_rfl) (fun _ _ _ h => h) (Or.inl ⟨by rfl, ?_⟩) (by assumption) ?_
                          rotate_left
                          · (intro w hSw; simp only [List.getElem_toArray, List.getElem_cons_zero, List.getElem_cons_succ]; (try dsimp only at hSw); go_simp; try (with_reducible rfl))
                          simp only [Act.put, List.setIfInBounds_toArray, List.set_cons_zero, List.set_cons_succ, List.getElem_toArray, List.getElem_cons_zero, List.getElem_cons_succ]
                          refine wpAnyH_ready (rs := [24]) (by kernel_rfl) (by simp) ?_
                          refine AllReadyH.cons (o := _) rfl (fun K hK => ?_) ?_
                          · simp only [List.getElem_toArray, List.getElem_cons_zero, List.getElem_cons_succ]
                            go_simp
                            go_at_call 7
                            refine (HY.out _ _ T q _ _ rfl HTD.out HM2.out hl3 hl4 hHeld.1.1 hHeld.1.2).mono ?_
                            rintro e w24 ⟨rfl, hE9, hB9, hk9⟩
                            refine hK.out _ _ ⟨⟨hB9, hE9⟩, hk9 _ hHeld.2⟩ (fun hHeld => ?_)
                            clear hK K
                            try simp only [Act.put, List.setIfInBounds_toArray, List.set_cons_zero, List.set_cons_succ, List.getElem_toArray, List.getElem_cons_zero, List.getElem_cons_succ]
                            cases M2
                            all_goals
                              refine wpAnyH_take (i := 25) (oi := _) (v := ?_) rfl (by kernel_rfl) (by kernel_rfl) (by kernel_rfl) (fun _ _ _ h => h) (Or.inl ⟨by rfl, ?_⟩) (by assumption) ?_
                              rotate_left
                              · (intro w hSw; simp only [List.getElem_toArray, List.getElem_cons_zero, List.getElem_cons_succ]; (try dsimp only at hSw); go_simp; try (with_reducible rfl))
                              simp only [Act.put, List.setIfInBounds_toArray, List.set_cons_zero, List.set_cons_succ, List.getElem_toArray, List.getElem_cons_zero, List.getElem_cons_succ]
                              refine wpAnyH_take (i := 26) (oi := _) (v := ?_) rfl (by kernel_rfl) (by kernel_rfl) (by kernel_rfl) (fun _ _ _ h => h) (Or.inl ⟨by rfl, ?_⟩) (by assumption) ?_
                              rotate_left
                              · (intro w hSw; simp only [List.getElem_toArray, List.getElem_cons_zero, List.getElem_cons_succ]; (try dsimp only at hSw); go_simp; try (with_reducible rfl))
                              simp only [Act.put, List.setIfInBounds_toArray, List.set_cons_zero, List.set_cons_succ, List.getElem_toArray, List.getElem_cons_zero, List.getElem_cons_succ]
                              refine wpAnyH_take (i := 27) (oi := _) (v := ?_) rfl (by kernel_rfl) (by kernel_rfl) (by kernel_rfl) (fun _ _ _ h => h) (Or.inl ⟨by rfl, ?_⟩) (by assumption) ?_
                              rotate_left
                              · (intro w hSw; simp only [List.getElem_toArray, List.getElem_cons_zero, List.getElem_cons_succ]; (try dsimp only at hSw); go_simp; try (with_reducible rfl))
                              simp only [Act.put, List.setIfInBounds_toArray, List.set_cons_zero, List.set_cons_succ, List.getElem_toArray, List.getElem_cons_zero, List.getElem_cons_succ]
                              refine wpAnyH_done (by kernel_rfl) ?_ _
                              refine NoPanic.normal ?_
                              go_wp2
                              go_roundw
                              case rel => first | exact ⟨k + 1, by go_num, by omega, HREL.out _ hHeld.1.1⟩ | ((repeat apply Exists.intro); exact ⟨⟨k + 1, by go_num, by omega, HREL.out _ hHeld.1.1⟩, rfl⟩)
                              case measure => simp [intOf]; omega
                          exact AllReadyH.nil
                        exact AllReadyH.nil
                      exact AllReadyH.nil
                  exact AllReadyH.nil
              · have b2 : (((tk : Nat) : Int) == 2) = false := by simp; omega
                clear k2 HGT HN3
                go_wp2_with fail
                go_quiet (fail)
                go_wp2
                go_roundw
                case rel => exact ⟨k + 1, by go_num, by omega, HREL.out _ (below_dN (Below.refl _ _) _)⟩
                case measure => simp [intOf]; omega
            · obtain rfl : k = ts.length := by omega
              have HBF := Lib.hid (HB6.out.trans (HB.out.mono HB6.out.size))
              clear HB HT HG
              go_wp2
              go_ret
              exact ⟨rfl, HBF.out⟩





set_option maxRecDepth 100000 in
theorem lifted (os : Os) (started : os.Started) (H : Type) (enc : TypeId × Value → H) :
    ReturnsInHanded {} Tryd.checked os 3 .any (fun w args => (Rows.fnClassHeadSpec.pre enc Tryd.prog Tryd.f3 Rows.fnClassHeadRow.domain false w args ∧ laidMetH Tryd.prog Rows.fnClassHeadRow.laid w) ∧ sizedMet enc Tryd.prog Tryd.f3 (OpenSpec.ofChange Rows.fnClassHeadSpec) false w args) (Rows.fnClassHeadSpec.post enc Tryd.prog Tryd.f3 false true false false) := by
  refine returnsInHanded_of_change_and (C := Tryd.checked) (X := fun w _ => laidMetH Tryd.prog Rows.fnClassHeadRow.laid w) (fun _ _ _ hh h => h.of_heap hh) own started (by kernel_rfl) Tryd.func3
    (ChangeSpec.witness_shaped (enc := enc) (C := Tryd.checked) (os := os) (X := fun w _ => laidMetH Tryd.prog Rows.fnClassHeadRow.laid w) false (World.laidAll Tryd.prog os Rows.fnClassHeadRow.laid) #[.slice none 0 0] 8 (World.laidAll_os _ _ _)
      (World.shaped_of_ZipB (by kernel_rfl) (by kernel_rfl)) (by kernel_rfl) (by kernel_rfl) (by kernel_rfl)
      (by rw [MakeChecks.laidMetH_plain _ _ _ (by kernel_rfl)]; exact laidMet_laidAll _ (by kernel_rfl) (by kernel_rfl))) ?_
  intro W base args ds gs before hval0 hW hcnd hsz0 hL _
  have hval : ∀ (j : Nat) t v, Tryd.f3.params[j]? = some t → args[j]? = some v → Value.okWide Tryd.prog W .any base t v := hval0
  have hW' := hW
  obtain ⟨p, q, hA0, hV, rfl, hfz, hnd⟩ := hW
  have hA : DataW.TrodAll enc Tryd.prog W 0 (fun _ => true) true Tryd.f3.params.toList args.toList ds p := hA0
  rw [Tryd.params3] at hA hval
  obtain ⟨v0, vs0, d0, ds0, p0, q0, hargs, rfl, rfl, h0, r0⟩ := trodAll_cons hA
  obtain ⟨rfl, rfl, rfl⟩ := trodAll_nil r0
  obtain rfl : args = #[v0] := by cases args; simp_all
  obtain ⟨rfl, rfl⟩ := trodVars_none hV
  obtain ⟨a0, len0, cap0, rfl⟩ := okWide_slice Tryd.underlying22 (hval 0 22 v0 rfl rfl)
  have k0 := h0
  have lt0 : ∀ x ∈ p0, x.block < W.heap.size := by obtain ⟨m, hm⟩ := k0; exact DataW.trod_lt m _ _ _ hm
  obtain ⟨z0, w0⟩ : ∃ zs, IsRow .u8 W a0 len0 cap0 zs := by
    obtain ⟨fuel, hf⟩ := h0
    rcases open_ints Tryd.underlying22 Tryd.underlying5 (by kernel_rfl) hf with ⟨hcs, _⟩ | ⟨x, l, c, zs, hcs, _, hl, hm, hz, _, hcell, hwz⟩
    · simp [Value.cells] at hcs
      obtain ⟨rfl, rfl, rfl⟩ := hcs
      exact ⟨[], .inl ⟨rfl, rfl, rfl, rfl⟩⟩
    · simp [Value.cells] at hcs
      obtain ⟨rfl, rfl, rfl⟩ := hcs
      exact ⟨zs, .inr ⟨_, rfl, hl, hm, by simpa using hz, hcell, hwz⟩⟩
  obtain ⟨ae, hE⟩ := env_of hL
  clear hA0 hval0
  refine (walk a0 len0 cap0 z0 W w0 ae hE).mono fun e W' ⟨he, bel⟩ => ?_
  subst he
  exact ⟨_, rfl, _, _, _, [], _, [], hW', trodAll_mk1 (shut_bool Tryd.underlying4 _), (trodAll_cons_mk (Below.trod laidOut (by kernel_rfl) (of_decide_eq_true (by kernel_rfl)) k0 bel lt0) trodAll_mk0), rfl, bel.frame _, fun h => by cases h⟩

theorem over : Rows.fnClassHeadRow.holds Tryd.pinned (OpenSpec.ofChange Rows.fnClassHeadSpec) :=
  OpenClaim.holds_of_wide 3 Tryd.f3 rfl rfl rfl rfl rfl rfl rfl ⟨rfl, rfl, rfl, rfl, rfl⟩ rfl rfl rfl rfl rfl (by kernel_rfl) Tryd.func3 (by kernel_rfl)
    (of_decide_eq_true (by kernel_rfl)) (by unfold Func.isWrapper; first | (rw [if_pos (by decide +kernel)]; kernel_rfl) | (rw [if_neg (by decide +kernel)]; exact ⟨rfl, rfl⟩))
    (fun os started H enc _ => lifted os started H enc)

theorem proved : Rows.FnClassHeadCardSaid :=
  Claim7.holds_tied_plain_at .later [] Rows.fnClassHeadCard.laidKinds true Rows.fnClassHeadCard.stood.harness true over (fun _ h => by cases h) (by kernel_rfl) (fun _ h => by cases h) fnClassHead_row_tie rfl ⟨rfl, rfl⟩ (by kernel_rfl) rfl
    (fun f fn hf hfn => by
      obtain rfl : f = 3 := Option.some.inj ((show Tryd.prog.funcNamed Rows.fnClassHeadRow.func = some 3 by kernel_rfl).symm.trans hf) |>.symm
      obtain rfl : fn = Tryd.f3 := (Option.some.inj (Tryd.func3.symm.trans hfn)).symm
      exact ⟨by kernel_rfl, fun j t ht => by
        rw [Tryd.params3] at ht
        have hm : t ∈ [22] := by simpa using Array.mem_of_getElem? ht
        have hall : ([22].all fun u => !Tryd.prog.wantsStandIn u) = true := by kernel_rfl
        exact (show Tryd.prog.wantsStandIn t = false by simpa using List.all_eq_true.1 hall t hm)⟩)
    (by kernel_rfl)
end Go.Proofs.YtcoaoheakeodoaaDoor.fnClassHead


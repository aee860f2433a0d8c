/-
  Of sound pairs, a pattern with one star matches exactly the names whose first and last characters its other terms admit, without a slash between them: the law returns true for every input and leaves it as it was. Conditions: none.
  The frame round the walk is the kit's own (proof-skeleton.mjs).
-/
import Derived.Test.YtefkgdbmndhebaaDoorRows
import Derived.Test.YtefkgdbmndhebaaDoorDecC
import Derived.Test.YtefkgdbmndhebaaDoorQuoteC
import Derived.Test.YtefkgdbmndhebaaDoorDrawN
import Derived.Test.YtefkgdbmndhebaaDoorImplB
import Derived.Test.YtefkgdbmndhebaaDoorTie
import Derived.Test.YtefkgdbmndhebaaDoorCards
import Derived.Test.YtefkgdbmndhebaaDoorLaid
import Derived.LaidMore
import Derived.Lay
import Derived.SevenTiedAt
import Derived.Stop.Joined
namespace Go.Proofs.YtefkgdbmndhebaaDoor.fnOneStar
open Go.ChangeShapes Go.WideShapes Go.ChangeAt Go.RowKit
open Go.ChangeMaps (open_string shut_string)
set_option linter.unusedVariables false

set_option maxHeartbeats 2000000 in
theorem walk (a : Option Addr) (len cap : Nat) (zs : List Int) (w : World) (hr : IsRow .u8 w a len cap zs) (ae : Addr) (hE : Env ae w) :
    Calls Tryd.prog 7 #[.slice a len cap] w fun e w' => e = .returned (.bool true) ∧ Below w.heap.size w w' := by
  have HR := Lib.hid hr
  have HE := Lib.hid hE
  clear hr hE
  by_cases hlen : 1048576 < len
  · have hl' : (1048576 : Int) < len := by omega
    go_enter Tryd.func7, Tryd.ntmps7
    go_wp2
    go_ret
    exact ⟨rfl, Below.refl _ _⟩
  · have hl' : ¬ (1048576 : Int) < len := by omega
    go_enter Tryd.func7, Tryd.ntmps7
    go_wp2_with fail
    refine (drawConcat_any a len cap zs _ HR.out (by omega)).mono ?_
    rintro e w1 ⟨p, q, n, rfl, hpl, hql, hnl, hb⟩
    have HE1 := Lib.hid (HE.out.on hb)
    have HB1 := Lib.hid hb
    clear hb HR HE
    go_wp2_with fail
    refine (yesStar ae w1 HE1.out).mono ?_
    rintro e w2 ⟨rfl, hb⟩
    have HE2 := Lib.hid (HE1.out.on hb)
    have HB2 := Lib.hid (HB1.out.trans (hb.mono HB1.out.size))
    clear hb HE1 HB1
    go_wp2_with fail
    refine (wellFormedB ae _ p w2 HE2.out rfl (by omega)).mono ?_
    rintro e w3 ⟨rfl, hb⟩
    have HE3 := Lib.hid (HE2.out.on hb)
    have HB3 := Lib.hid (HB2.out.trans (hb.mono HB2.out.size))
    clear hb HE2 HB2
    generalize hA : wfB p = A
    have HA := Lib.hid hA
    clear hA
    cases A with
    | false =>
      go_wp2
      go_ret
      exact ⟨rfl, HB3.out⟩
    | true =>
      go_wp2_with fail
      refine (wellFormedB ae _ q w3 HE3.out rfl (by omega)).mono ?_
      rintro e w4 ⟨rfl, hb⟩
      have HE4 := Lib.hid (HE3.out.on hb)
      have HB4 := Lib.hid (HB3.out.trans (hb.mono HB3.out.size))
      clear hb HE3 HB3
      generalize hB : wfB q = B
      have HB := Lib.hid hB
      clear hB
      cases B with
      | false =>
        go_wp2
        go_ret
        exact ⟨rfl, HB4.out⟩
      | true =>
        obtain ⟨ts, tp⟩ := tms_of HA.out
        obtain ⟨us, tq⟩ := tms_of HB.out
        have tpq := tp.app tq
        have hw1 := read_weight' p ts tp.2
        have hw2 := read_weight' q us tq.2
        have hw3 := weight_len ts
        have hw4 := weight_len us
        have HR1 := Lib.hid tp.2
        have HR2 := Lib.hid tq.2
        have hlaw := fun h0 hs => law_oneStar (n := n) tp tq h0 hs
        have hg3 : ∀ t ∈ ts ++ us, t.kind ≤ 100 := fun t ht => (good_ok (tpq.all.2.1 t ht)).1
        have hr3 := tpq.2
        have hvl : (ts ++ us).length ≤ 4000000 := by rw [List.length_append]; omega
        obtain ⟨vs, hvs⟩ : ∃ vs, vs = ts ++ us := ⟨_, rfl⟩
        rw [← hvs] at hlaw hg3 hr3 hvl
        clear hvs
        have HR3 := Lib.hid hr3
        have HG3 := Lib.hid hg3
        have HLAW := Lib.hid hlaw
        have hfd := fld0
        clear hlaw hg3 hr3
        clear tp tq tpq HA HB
        go_wp2_with fail
        refine (readB _ (p ++ q) w4 (by simp) (by simp; omega)).mono ?_
        rintro e w5 ⟨hb, va4, vn, vc4, rfl, hts⟩
        obtain ⟨rfl, htm⟩ := hts vs HR3.out
        have HT := Lib.hid htm
        have HE5 := Lib.hid (HE4.out.on hb)
        have HB5 := Lib.hid (HB4.out.trans (hb.mono HB4.out.size))
        generalize rdOk (p ++ q) = OK4
        generalize rdSet (p ++ q) = ST4
        clear hb HE4 HB4 hts htm
        have hsn := starN_le vs
        go_wp2_with fail
        refine (stars_call _ _ vs w5 HT.out (by omega) HG3.out).mono ?_
        rintro e w6 ⟨rfl, hb⟩
        have HE6 := Lib.hid (HE5.out.on hb)
        have HB6 := Lib.hid (HB5.out.trans (hb.mono HB5.out.size))
        clear hb HE5 HB5
        clear HT HG3 HR3
        obtain ⟨N, hN⟩ : ∃ N, N = starN vs := ⟨_, rfl⟩
        rw [← hN] at HLAW hsn ⊢
        clear hN
        by_cases hN0 : N = 0
        · subst hN0
          have HL0 := Lib.hid (HLAW.out rfl)
          clear HLAW
          go_wp2_with fail
          refine (soundCB ae _ _ (p ++ [42] ++ q) n w6 HE6.out (by simp) rfl (by simp; omega) (by omega)).mono ?_
          rintro e w7 ⟨rfl, hb⟩
          have HE7 := Lib.hid (HE6.out.on hb)
          have HB7 := Lib.hid (HB6.out.trans (hb.mono HB6.out.size))
          clear hb HE6 HB6
          generalize hC : soundB (p ++ [42] ++ q) n = C
          have HC := Lib.hid hC
          clear hC
          cases C with
          | false =>
            go_wp2
            go_ret
            exact ⟨rfl, HB7.out⟩
          | true =>
            have HL := Lib.hid (HL0.out HC.out)
            clear HL0 HC
            go_wp2_with fail
            refine (readB _ p w7 rfl (by omega)).mono ?_
            rintro e w8 ⟨hb, va7, vn, vc7, rfl, hts⟩
            obtain ⟨rfl, htm⟩ := hts ts HR1.out
            have HT := Lib.hid htm
            have HE8 := Lib.hid (HE7.out.on hb)
            have HB8 := Lib.hid (HB7.out.trans (hb.mono HB7.out.size))
            generalize rdOk p = OK7
            generalize rdSet p = ST7
            clear hb HE7 HB7 hts htm
            clear HT HR1
            go_wp2_with fail
            refine (readB _ q w8 rfl (by omega)).mono ?_
            rintro e w9 ⟨hb, va8, vn, vc8, rfl, hts⟩
            obtain ⟨rfl, htm⟩ := hts us HR2.out
            have HT := Lib.hid htm
            have HE9 := Lib.hid (HE8.out.on hb)
            have HB9 := Lib.hid (HB8.out.trans (hb.mono HB8.out.size))
            generalize rdOk q = OK8
            generalize rdSet q = ST8
            clear hb HE8 HB8 hts htm
            clear HT HR2
            have hcl := cutsL_len n
            have hrl := runes_len _ n (Nat.le_refl _)
            go_wp2_with fail
            refine (cuts_call ae n w9 HE9.out (by omega)).mono ?_
            rintro e w10 ⟨v, rfl, ⟨gg, cc, rfl, hcc, hcm, hgg, hcells⟩, hb⟩
            have HE10 := Lib.hid (HE9.out.on hb)
            have HB10 := Lib.hid (HB9.out.trans (hb.mono HB9.out.size))
            clear hb HE9 HB9
            unfold maxLen at hcm
            have HCE := Lib.hid hcells
            clear hcells
            generalize cutsL n = C at *
            generalize (runes n).length = R at *
            generalize hTl : ts.length = T at *
            generalize hUl : us.length = U at *
            have hTb : T ≤ 1048576 := by omega
            have hUb : U ≤ 1048576 := by omega
            clear hTl hUl hw1 hw2
            by_cases hl : T + U ≤ R
            · obtain ⟨i, k, hi, hk, hik, hkn, hmm⟩ := HL.out.2 hl
              obtain ⟨K, hK⟩ : ∃ K, R = K + U := ⟨R - U, by omega⟩
              subst hK
              rw [Nat.add_sub_cancel] at hk
              rw [hcl] at hcc ⊢
              have ci := HCE.out T i hi
              have ck := HCE.out K k hk
              have HM := Lib.hid hmm
              clear HL HCE hmm hi hk hcl
              have z1 : (T : Int) + (U : Int) < ((K + U + 1 : Nat) : Int) := by omega
              have z2 : ((K + U + 1 : Nat) : Int) - 1 - (U : Int) = (K : Int) := by omega
              have z3 : (T : Int) < ((K + U + 1 : Nat) : Int) := by omega
              have z4 : (K : Int) < ((K + U + 1 : Nat) : Int) := by omega
              have z5 : (i : Int) ≤ (k : Int) := by omega
              have z6 : (k : Int) ≤ (n.length : Int) := by omega
              have z7 : (i : Int) ≤ (n.length : Int) := by omega
              go_wp2_with fail
              refine (yesB ae _ _ p (n.take i) w10 HE10.out rfl (ba_take n i _ _ rfl rfl) (by omega) (by rw [List.length_take]; omega)).mono ?_
              rintro e w11 ⟨rfl, hb⟩
              have HE11 := Lib.hid (HE10.out.on hb)
              have HB11 := Lib.hid (HB10.out.trans (hb.mono HB10.out.size))
              clear hb HE10 HB10
              generalize hX : mm p (n.take i) = X
              have HX := Lib.hid hX
              clear hX
              cases X with
              | false =>
                have HM2 : Hid (mm (p ++ [42] ++ q) n = false) := Lib.hid (by rw [HM.out, HX.out]; rfl)
                clear HM HX
                go_wp2_with fail
                refine (yesB ae _ _ (p ++ [42] ++ q) n w11 HE11.out (by simp) rfl (by simp; omega) (by omega)).mono ?_
                rintro e w12 ⟨rfl, hb⟩
                have HE12 := Lib.hid (HE11.out.on hb)
                have HB12 := Lib.hid (HB11.out.trans (hb.mono HB11.out.size))
                clear hb HE11 HB11
                rw [HM2.out]
                go_wp2
                go_ret
                exact ⟨rfl, HB12.out⟩
              | true =>
                have HM2 : Hid (mm (p ++ [42] ++ q) n = (mm q (n.drop k) && !((n.drop i).take (k - i)).contains 47)) := Lib.hid (by rw [HM.out, HX.out]; rfl)
                clear HM HX
                go_wp2_with fail
                refine (yesB ae _ _ q (n.drop k) w11 HE11.out rfl (ba_drop n k _ rfl) (by omega) (by rw [List.length_drop]; omega)).mono ?_
                rintro e w12 ⟨rfl, hb⟩
                have HE12 := Lib.hid (HE11.out.on hb)
                have HB12 := Lib.hid (HB11.out.trans (hb.mono HB11.out.size))
                clear hb HE11 HB11
                generalize hY : mm q (n.drop k) = Y
                have HY := Lib.hid hY
                clear hY
                cases Y with
                | false =>
                  have HM3 : Hid (mm (p ++ [42] ++ q) n = false) := Lib.hid (by rw [HM2.out, HY.out]; rfl)
                  clear HM2 HY
                  go_wp2_with fail
                  refine (yesB ae _ _ (p ++ [42] ++ q) n w12 HE12.out (by simp) rfl (by simp; omega) (by omega)).mono ?_
                  rintro e w13 ⟨rfl, hb⟩
                  have HE13 := Lib.hid (HE12.out.on hb)
                  have HB13 := Lib.hid (HB12.out.trans (hb.mono HB12.out.size))
                  clear hb HE12 HB12
                  rw [HM3.out]
                  go_wp2
                  go_ret
                  exact ⟨rfl, HB13.out⟩
                | true =>
                  have HM3 : Hid (mm (p ++ [42] ++ q) n = !((n.drop i).take (k - i)).contains 47) := Lib.hid (by rw [HM2.out, HY.out]; rfl)
                  clear HM2 HY
                  go_wp2_with fail
                  refine (slashB _ ((n.drop i).take (k - i)) w12 (ba_mid n i k)).mono ?_
                  rintro e w13 ⟨rfl, hb⟩
                  have HE13 := Lib.hid (HE12.out.on hb)
                  have HB13 := Lib.hid (HB12.out.trans (hb.mono HB12.out.size))
                  clear hb HE12 HB12
                  generalize ((n.drop i).take (k - i)).contains 47 = Z at *
                  go_wp2_with fail
                  refine (yesB ae _ _ (p ++ [42] ++ q) n w13 HE13.out (by simp) rfl (by simp; omega) (by omega)).mono ?_
                  rintro e w14 ⟨rfl, hb⟩
                  have HE14 := Lib.hid (HE13.out.on hb)
                  have HB14 := Lib.hid (HB13.out.trans (hb.mono HB13.out.size))
                  clear hb HE13 HB13
                  rw [HM3.out]
                  cases Z with
                  | false =>
                    go_wp2
                    go_ret
                    exact ⟨rfl, HB14.out⟩
                  | true =>
                    go_wp2
                    go_ret
                    exact ⟨rfl, HB14.out⟩
            · have HM := Lib.hid (HL.out.1 (by omega))
              rw [hcl] at hcc ⊢
              have z1 : ¬ ((T : Int) + (U : Int) < ((R + 1 : Nat) : Int)) := by omega
              have z1b : decide ((T : Int) + (U : Int) < ((R + 1 : Nat) : Int)) = false := decide_eq_false z1
              have z1c : ¬ ((T : Int) + (U : Int) < (R : Int) + 1) := by omega
              have z1d : decide ((T : Int) + (U : Int) < (R : Int) + 1) = false := decide_eq_false z1c
              clear HL HCE hcl
              go_wp2_with fail
              refine (yesB ae _ _ (p ++ [42] ++ q) n w10 HE10.out (by simp) rfl (by simp; omega) (by omega)).mono ?_
              rintro e w11 ⟨rfl, hb⟩
              have HE11 := Lib.hid (HE10.out.on hb)
              have HB11 := Lib.hid (HB10.out.trans (hb.mono HB10.out.size))
              clear hb HE10 HB10
              rw [HM.out]
              go_wp2
              go_ret
              exact ⟨rfl, HB11.out⟩
        · have hN1 : (0 : Int) < (N : Int) := by omega
          clear HLAW HR1 HR2
          go_wp2
          go_ret
          exact ⟨rfl, HB6.out⟩


set_option maxRecDepth 100000 in
theorem lifted (os : Os) (started : os.Started) (H : Type) (enc : TypeId × Value → H) :
    ReturnsInHanded {} Tryd.checked os 7 .any (fun w args => (Rows.fnOneStarSpec.pre enc Tryd.prog Tryd.f7 Rows.fnOneStarRow.domain false w args ∧ laidMetH Tryd.prog Rows.fnOneStarRow.laid w) ∧ sizedMet enc Tryd.prog Tryd.f7 (OpenSpec.ofChange Rows.fnOneStarSpec) false w args) (Rows.fnOneStarSpec.post enc Tryd.prog Tryd.f7 false true false false) := by
  refine returnsInHanded_of_change_and (C := Tryd.checked) (X := fun w _ => laidMetH Tryd.prog Rows.fnOneStarRow.laid w) (fun _ _ _ hh h => h.of_heap hh) own started (by kernel_rfl) Tryd.func7
    (ChangeSpec.witness_shaped (enc := enc) (C := Tryd.checked) (os := os) (X := fun w _ => laidMetH Tryd.prog Rows.fnOneStarRow.laid w) false (World.laidAll Tryd.prog os Rows.fnOneStarRow.laid) #[.slice none 0 0] 8 (World.laidAll_os _ _ _)
      (World.shaped_of_ZipB (by kernel_rfl) (by kernel_rfl)) (by kernel_rfl) (by kernel_rfl) (by kernel_rfl)
      (by rw [MakeChecks.laidMetH_plain _ _ _ (by kernel_rfl)]; exact laidMet_laidAll _ (by kernel_rfl) (by kernel_rfl))) ?_
  intro W base args ds gs before hval0 hW hcnd hsz0 hL _
  have hval : ∀ (j : Nat) t v, Tryd.f7.params[j]? = some t → args[j]? = some v → Value.okWide Tryd.prog W .any base t v := hval0
  have hW' := hW
  obtain ⟨p, q, hA0, hV, rfl, hfz, hnd⟩ := hW
  have hA : DataW.TrodAll enc Tryd.prog W 0 (fun _ => true) true Tryd.f7.params.toList args.toList ds p := hA0
  rw [Tryd.params7] at hA hval
  obtain ⟨v0, vs0, d0, ds0, p0, q0, hargs, rfl, rfl, h0, r0⟩ := trodAll_cons hA
  obtain ⟨rfl, rfl, rfl⟩ := trodAll_nil r0
  obtain rfl : args = #[v0] := by cases args; simp_all
  obtain ⟨rfl, rfl⟩ := trodVars_none hV
  obtain ⟨a0, len0, cap0, rfl⟩ := okWide_slice Tryd.underlying22 (hval 0 22 v0 rfl rfl)
  have k0 := h0
  have lt0 : ∀ x ∈ p0, x.block < W.heap.size := by obtain ⟨m, hm⟩ := k0; exact DataW.trod_lt m _ _ _ hm
  obtain ⟨z0, w0⟩ : ∃ zs, IsRow .u8 W a0 len0 cap0 zs := by
    obtain ⟨fuel, hf⟩ := h0
    rcases open_ints Tryd.underlying22 Tryd.underlying5 (by kernel_rfl) hf with ⟨hcs, _⟩ | ⟨x, l, c, zs, hcs, _, hl, hm, hz, _, hcell, hwz⟩
    · simp [Value.cells] at hcs
      obtain ⟨rfl, rfl, rfl⟩ := hcs
      exact ⟨[], .inl ⟨rfl, rfl, rfl, rfl⟩⟩
    · simp [Value.cells] at hcs
      obtain ⟨rfl, rfl, rfl⟩ := hcs
      exact ⟨zs, .inr ⟨_, rfl, hl, hm, by simpa using hz, hcell, hwz⟩⟩
  obtain ⟨ae, hE⟩ := env_of hL
  clear hA0 hval0
  refine (walk a0 len0 cap0 z0 W w0 ae hE).mono fun e W' ⟨he, bel⟩ => ?_
  subst he
  exact ⟨_, rfl, _, _, _, [], _, [], hW', trodAll_mk1 (shut_bool Tryd.underlying4 _), (trodAll_cons_mk (Below.trod laidOut (by kernel_rfl) (of_decide_eq_true (by kernel_rfl)) k0 bel lt0) trodAll_mk0), rfl, bel.frame _, fun h => by cases h⟩

theorem over : Rows.fnOneStarRow.holds Tryd.pinned (OpenSpec.ofChange Rows.fnOneStarSpec) :=
  OpenClaim.holds_of_wide 7 Tryd.f7 rfl rfl rfl rfl rfl rfl rfl ⟨rfl, rfl, rfl, rfl, rfl⟩ rfl rfl rfl rfl rfl (by kernel_rfl) Tryd.func7 (by kernel_rfl)
    (of_decide_eq_true (by kernel_rfl)) (by unfold Func.isWrapper; first | (rw [if_pos (by decide +kernel)]; kernel_rfl) | (rw [if_neg (by decide +kernel)]; exact ⟨rfl, rfl⟩))
    (fun os started H enc _ => lifted os started H enc)

theorem proved : Rows.FnOneStarCardSaid :=
  Claim7.holds_tied_plain_at .later [] Rows.fnOneStarCard.laidKinds true Rows.fnOneStarCard.stood.harness true over (fun _ h => by cases h) (by kernel_rfl) (fun _ h => by cases h) fnOneStar_row_tie rfl ⟨rfl, rfl⟩ (by kernel_rfl) rfl
    (fun f fn hf hfn => by
      obtain rfl : f = 7 := Option.some.inj ((show Tryd.prog.funcNamed Rows.fnOneStarRow.func = some 7 by kernel_rfl).symm.trans hf) |>.symm
      obtain rfl : fn = Tryd.f7 := (Option.some.inj (Tryd.func7.symm.trans hfn)).symm
      exact ⟨by kernel_rfl, fun j t ht => by
        rw [Tryd.params7] at ht
        have hm : t ∈ [22] := by simpa using Array.mem_of_getElem? ht
        have hall : ([22].all fun u => !Tryd.prog.wantsStandIn u) = true := by kernel_rfl
        exact (show Tryd.prog.wantsStandIn t = false by simpa using List.all_eq_true.1 hall t hm)⟩)
    (by kernel_rfl)
end Go.Proofs.YtefkgdbmndhebaaDoor.fnOneStar


/-
  A pattern without a star matches the names whose characters its terms admit, one by one: the law returns true for every input and leaves it as it was. Conditions: none.
  The frame round the walk is the kit's own (proof-skeleton.mjs).
-/
import Derived.Test.YtgpcnckiabjefaaDoorRows
import Derived.Test.YtgpcnckiabjefaaDoorDrawN
import Derived.Test.YtgpcnckiabjefaaDoorNoStarT
import Derived.Test.YtgpcnckiabjefaaDoorTie
import Derived.Test.YtgpcnckiabjefaaDoorCards
import Derived.Test.YtgpcnckiabjefaaDoorLaid
import Derived.LaidMore
import Derived.Lay
import Derived.SevenTiedAt
import Derived.Stop.Joined
namespace Go.Proofs.YtgpcnckiabjefaaDoor.fnNoStar
open Go.ChangeShapes Go.WideShapes Go.ChangeAt Go.RowKit
open Go.ChangeMaps (open_string shut_string)
set_option linter.unusedVariables false

set_option maxRecDepth 100000 in
set_option maxHeartbeats 4000000 in
theorem walk (a : Option Addr) (len cap : Nat) (zs : List Int) (w : World) (hr : IsRow .u8 w a len cap zs) (ae : Addr) (hE : Env ae w) :
    Calls Tryd.prog 10 #[.slice a len cap] w fun e w' => e = .returned (.bool true) ∧ Below w.heap.size w w' := by
  have HR := Lib.hid hr
  have HE := Lib.hid hE
  clear hr hE
  by_cases hlen : 1048576 < len
  · have hl' : (1048576 : Int) < len := by omega
    go_enter Tryd.func10, Tryd.ntmps10
    go_wp2
    go_ret
    exact ⟨rfl, Below.refl _ _⟩
  · have hl' : ¬ (1048576 : Int) < len := by omega
    go_enter Tryd.func10, Tryd.ntmps10
    go_wp2_with fail
    refine (drawMatch_any a len cap zs _ HR.out (by omega)).mono ?_
    rintro e w1 ⟨p, n, rfl, hpl, hnl, hb⟩
    have HE1 := Lib.hid (HE.out.on hb)
    have HB1 := Lib.hid hb
    clear hb HR HE
    go_wp2_with fail
    refine (wellFormedB ae _ p w1 HE1.out rfl (by omega)).mono ?_
    rintro e w2 ⟨rfl, hb⟩
    have HE2 := Lib.hid (HE1.out.on hb)
    have HB2 := Lib.hid (HB1.out.trans (hb.mono HB1.out.size))
    clear hb HE1 HB1
    generalize hA : wfB p = A
    have HA := Lib.hid hA
    clear hA
    cases A with
    | false =>
      go_wp2
      go_ret
      exact ⟨rfl, HB2.out⟩
    | true =>
      go_wp2_with fail
      refine (validB ae _ n w2 HE2.out rfl (by omega)).mono ?_
      rintro e w3 ⟨rfl, hb⟩
      have HE3 := Lib.hid (HE2.out.on hb)
      have HB3 := Lib.hid (HB2.out.trans (hb.mono HB2.out.size))
      clear hb HE2 HB2
      generalize hC : Lib.validD n = C
      have HC := Lib.hid hC
      clear hC
      cases C with
      | false =>
        go_wp2
        go_ret
        exact ⟨rfl, HB3.out⟩
      | true =>
        have HVN := Lib.hid HC.out
        obtain ⟨ts, hrd, hpa, hgood, _, _⟩ := wf_terms HA.out
        have hwt := read_weight' p ts hrd
        have hwl := weight_len ts
        have HG : Hid (∀ t ∈ ts, okNum t) := Lib.hid (fun t ht => good_ok (hgood t ht))
        have HRD := Lib.hid hrd
        have hgl := hgood
        have hvr := valid_runes _ n (Nat.le_refl _) HC.out
        have HQ : Hid ((∀ t ∈ ts, t.kind ≠ 0) → mm p n = fitAll ts (runes n)) := Lib.hid (fun h => by
          rw [mm_of hpa]
          conv => lhs; rw [← hvr.2]
          exact gm_noStar ts _ hgl hvr.1 h)
        have hrl := runes_len _ n (Nat.le_refl _)
        have HGS : Hid (∀ c ∈ runes n, c ≤ 2147483647) := Lib.hid (fun c hc => by have := hvr.1 c hc; unfold sc at this; omega)
        have HG2 : Hid (∀ t ∈ ts, t.kind ≤ 100) := Lib.hid (fun t ht => (HG.out t ht).1)
        clear HA HC hgl hvr HVN
        clear hrd hpa hgood
        have hfd := fld0
        go_wp2_with fail
        refine (readB _ p w3 rfl (by omega)).mono ?_
        rintro e w4 ⟨hb, va, vn, vc, rfl, hts⟩
        obtain ⟨rfl, htm⟩ := hts ts HRD.out
        have HT := Lib.hid htm
        have HE4 := Lib.hid (HE3.out.on hb)
        have HB4 := Lib.hid (HB3.out.trans (hb.mono HB3.out.size))
        generalize rdOk p = OK
        generalize rdSet p = ST
        clear hb HE3 HB3 hts htm
        go_wp2_with fail
        refine (stars_call _ _ ts w4 HT.out (by omega) HG2.out).mono ?_
        rintro e w5 ⟨rfl, hb⟩
        have HK := Lib.hid (HT.out.below hb)
        clear HT
        have HT := HK
        clear HK
        have HE5 := Lib.hid (HE4.out.on hb)
        have HB5 := Lib.hid (HB4.out.trans (hb.mono HB4.out.size))
        clear hb HE4 HB4
        by_cases hN : starN ts = 0
        · have HNS : Hid (∀ t ∈ ts, t.kind ≠ 0) := Lib.hid (starN_zero hN)
          rw [hN]
          have HM := Lib.hid (HQ.out HNS.out)
          clear HQ HNS HG2 HT hN
          have hfd := fld0
          go_wp2_with fail
          refine (readB _ p w5 rfl (by omega)).mono ?_
          rintro e w6 ⟨hb, va, vn, vc, rfl, hts⟩
          obtain ⟨rfl, htm⟩ := hts ts HRD.out
          have HT := Lib.hid htm
          have HE6 := Lib.hid (HE5.out.on hb)
          have HB6 := Lib.hid (HB5.out.trans (hb.mono HB5.out.size))
          generalize rdOk p = OK
          generalize rdSet p = ST
          clear hb HE5 HB5 hts htm
          clear HRD
          obtain ⟨cp, W1, hcv, hra, hg1, hsz1⟩ := conv_runes w6 n (by omega)
          have HBC : Hid (Below w6.heap.size w6 W1) := Lib.hid ((Below.refl _ w6).grown hg1 (Nat.le_refl _) (fun _ e => by cases e))
          have HT2 := Lib.hid (HT.out.below HBC.out)
          have HE := Lib.hid (HE6.out.on HBC.out)
          have HB := Lib.hid (HB6.out.trans (HBC.out.mono HB6.out.size))
          have HRA := Lib.hid hra
          clear HT HBC hg1 hsz1 hra HE6 HB6
          generalize runes n = cs at *
          go_wp2
          clear hcv
          go_loopw [7, 8] (fun want i wr => ∃ (k : Nat), i = .int .i64 (k : Nat) ∧ k ≤ ts.length ∧ want = .bool (fitUpto ts cs k) ∧ Below W1.heap.size W1 wr) (fun _ i _ => ts.length - (intOf i).toNat)
          case atStart => exact ⟨0, rfl, by omega, by rw [fitUpto_zero, ← int_beq], Below.refl _ _⟩
          case round =>
            obtain ⟨k, rfl, hk, rfl, hb⟩ := hrel
            have HBL := Lib.hid hb
            clear hb
            generalize hW : fitUpto ts cs k = W
            have HW := Lib.hid hW
            clear hW
            cases W with
            | false =>
              have HMF : Hid (mm p n = false) := Lib.hid (by rw [HM.out]; exact fitUpto_false ts cs k HW.out)
              clear HM HW HT2 HRA HG HGS
              go_wp2_with fail
              refine (yesB ae _ _ p n wr (HE.out.on HBL.out) rfl rfl (by omega) (by omega)).mono ?_
              rintro e w' ⟨rfl, hb⟩
              have HBF := Lib.hid (HB.out.trans ((HBL.out.trans (hb.mono HBL.out.size)).mono HB.out.size))
              rw [HMF.out]
              clear hb
              go_wp2
              go_ret
              exact ⟨rfl, HBF.out⟩
            | true =>
              by_cases hkl : k < ts.length
              · obtain ⟨t, htk⟩ : ∃ t, ts[k]? = some t := ⟨_, List.getElem?_eq_getElem hkl⟩
                have hkc : k < cs.length := by
                  have h := HW.out
                  unfold fitUpto at h
                  rw [Bool.and_eq_true] at h
                  have := of_decide_eq_true h.1
                  omega
                obtain ⟨c, hck⟩ : ∃ c, cs[k]? = some c := ⟨_, List.getElem?_eq_getElem (by omega)⟩
                obtain ⟨a', cap', e', _, hcells⟩ := HT2.out.below HBL.out
                obtain ⟨g, o, rv, rfl, hlo, hlt, c1, c2, c3, c4, hrg⟩ := hcells k t htk
                injection e' with e1 e2 e3
                subst e1
                clear e2 e3 hcells
                obtain ⟨_, _, hrc⟩ := HRA.out.below HBL.out
                obtain ⟨g2, o2, e4, hlt2, c5⟩ := hrc k c hck
                injection e4 with e4
                injection e4 with e5 e6
                subst e5 e6
                rw [Nat.zero_add] at c5
                clear hrc
                obtain ⟨n1, n2, n3⟩ := HG.out t (List.mem_of_getElem? htk)
                have hcc := HGS.out c (List.mem_of_getElem? hck)
                have hwtk : t.rs.length ≤ weight ts := by
                  have h1 := weight_append (ts.take k) (ts.drop k)
                  rw [List.take_append_drop] at h1
                  have h2 : ts.drop k = t :: ts.drop (k + 1) := by
                    rw [List.drop_eq_getElem_cons hkl]
                    rw [List.getElem?_eq_getElem hkl] at htk
                    injection htk with htk
                    rw [htk]
                  rw [h2, weight_cons] at h1
                  omega
                have HNX := Lib.hid (fitUpto_succ ts cs k t c htk hck HW.out)
                have hbd : Below wr.heap.size wr wr.drew := (Below.refl _ wr).grown (row := none) ⟨rfl, rfl, rfl, Nat.le_refl _, fun _ _ _ => rfl⟩ (Nat.le_refl _) (fun _ e => by cases e)
                have hcall := Lib.hid (admits_call _ t rv c wr.drew (hrg.below hbd) n1 hcc (by omega) n3)
                have HBD := Lib.hid (HBL.out.trans (hbd.mono HBL.out.size))
                clear hbd
                obtain ⟨ra, rcap, rfl, _⟩ := hrg
                clear n3 HG HT2 htk hck HW HGS HRA HM
                generalize adm t c = AD at *
                obtain ⟨tk, tc, tn, trs⟩ := t
                simp only at c1 c2 c3 c4 n1 n2 hwtk hcall
                go_wp2
                go_still_tail 8, (by kernel_rfl)
                change wpList _ _ _ _ _ wr.drew
                generalize wr.drew = w2 at *
                go_wp2_with fail
                refine hcall.out.mono ?_
                rintro e w' ⟨rfl, hb⟩
                have HB2 := Lib.hid (HBD.out.trans (hb.mono HBD.out.size))
                clear hb hcall
                go_wp2
                go_roundw
                case rel => exact ⟨k + 1, by go_num, by omega, by rw [HNX.out], HB2.out⟩
                case measure => simp [intOf]; omega
              · obtain rfl : k = ts.length := by omega
                have HMF : Hid (mm p n = true) := Lib.hid (by rw [HM.out, ← fitUpto_all]; exact HW.out)
                clear HM HW HT2 HRA HG HGS
                go_wp2_with fail
                refine (yesB ae _ _ p n wr (HE.out.on HBL.out) rfl rfl (by omega) (by omega)).mono ?_
                rintro e w' ⟨rfl, hb⟩
                have HBF := Lib.hid (HB.out.trans ((HBL.out.trans (hb.mono HBL.out.size)).mono HB.out.size))
                rw [HMF.out]
                clear hb
                go_wp2
                go_ret
                exact ⟨rfl, HBF.out⟩
        · have hN2 : (0 : Int) < ((starN ts : Nat) : Int) := by omega
          generalize starN ts = NN at *
          clear HQ HG2 HT
          go_wp2
          go_ret
          exact ⟨rfl, HB5.out⟩


set_option maxRecDepth 100000 in
theorem lifted (os : Os) (started : os.Started) (H : Type) (enc : TypeId × Value → H) :
    ReturnsInHanded {} Tryd.checked os 10 .any (fun w args => (Rows.fnNoStarSpec.pre enc Tryd.prog Tryd.f10 Rows.fnNoStarRow.domain false w args ∧ laidMetH Tryd.prog Rows.fnNoStarRow.laid w) ∧ sizedMet enc Tryd.prog Tryd.f10 (OpenSpec.ofChange Rows.fnNoStarSpec) false w args) (Rows.fnNoStarSpec.post enc Tryd.prog Tryd.f10 false true false false) := by
  refine returnsInHanded_of_change_and (C := Tryd.checked) (X := fun w _ => laidMetH Tryd.prog Rows.fnNoStarRow.laid w) (fun _ _ _ hh h => h.of_heap hh) own started (by kernel_rfl) Tryd.func10
    (ChangeSpec.witness_shaped (enc := enc) (C := Tryd.checked) (os := os) (X := fun w _ => laidMetH Tryd.prog Rows.fnNoStarRow.laid w) false (World.laidAll Tryd.prog os Rows.fnNoStarRow.laid) #[.slice none 0 0] 8 (World.laidAll_os _ _ _)
      (World.shaped_of_ZipB (by kernel_rfl) (by kernel_rfl)) (by kernel_rfl) (by kernel_rfl) (by kernel_rfl)
      (by rw [MakeChecks.laidMetH_plain _ _ _ (by kernel_rfl)]; exact laidMet_laidAll _ (by kernel_rfl) (by kernel_rfl))) ?_
  intro W base args ds gs before hval0 hW hcnd hsz0 hL _
  have hval : ∀ (j : Nat) t v, Tryd.f10.params[j]? = some t → args[j]? = some v → Value.okWide Tryd.prog W .any base t v := hval0
  have hW' := hW
  obtain ⟨p, q, hA0, hV, rfl, hfz, hnd⟩ := hW
  have hA : DataW.TrodAll enc Tryd.prog W 0 (fun _ => true) true Tryd.f10.params.toList args.toList ds p := hA0
  rw [Tryd.params10] at hA hval
  obtain ⟨v0, vs0, d0, ds0, p0, q0, hargs, rfl, rfl, h0, r0⟩ := trodAll_cons hA
  obtain ⟨rfl, rfl, rfl⟩ := trodAll_nil r0
  obtain rfl : args = #[v0] := by cases args; simp_all
  obtain ⟨rfl, rfl⟩ := trodVars_none hV
  obtain ⟨a0, len0, cap0, rfl⟩ := okWide_slice Tryd.underlying22 (hval 0 22 v0 rfl rfl)
  have k0 := h0
  have lt0 : ∀ x ∈ p0, x.block < W.heap.size := by obtain ⟨m, hm⟩ := k0; exact DataW.trod_lt m _ _ _ hm
  obtain ⟨z0, w0⟩ : ∃ zs, IsRow .u8 W a0 len0 cap0 zs := by
    obtain ⟨fuel, hf⟩ := h0
    rcases open_ints Tryd.underlying22 Tryd.underlying5 (by kernel_rfl) hf with ⟨hcs, _⟩ | ⟨x, l, c, zs, hcs, _, hl, hm, hz, _, hcell, hwz⟩
    · simp [Value.cells] at hcs
      obtain ⟨rfl, rfl, rfl⟩ := hcs
      exact ⟨[], .inl ⟨rfl, rfl, rfl, rfl⟩⟩
    · simp [Value.cells] at hcs
      obtain ⟨rfl, rfl, rfl⟩ := hcs
      exact ⟨zs, .inr ⟨_, rfl, hl, hm, by simpa using hz, hcell, hwz⟩⟩
  obtain ⟨ae, hE⟩ := env_of hL
  clear hA0 hval0
  refine (walk a0 len0 cap0 z0 W w0 ae hE).mono fun e W' ⟨he, bel⟩ => ?_
  subst he
  exact ⟨_, rfl, _, _, _, [], _, [], hW', trodAll_mk1 (shut_bool Tryd.underlying4 _), (trodAll_cons_mk (Below.trod laidOut (by kernel_rfl) (of_decide_eq_true (by kernel_rfl)) k0 bel lt0) trodAll_mk0), rfl, bel.frame _, fun h => by cases h⟩

theorem over : Rows.fnNoStarRow.holds Tryd.pinned (OpenSpec.ofChange Rows.fnNoStarSpec) :=
  OpenClaim.holds_of_wide 10 Tryd.f10 rfl rfl rfl rfl rfl rfl rfl ⟨rfl, rfl, rfl, rfl, rfl⟩ rfl rfl rfl rfl rfl (by kernel_rfl) Tryd.func10 (by kernel_rfl)
    (of_decide_eq_true (by kernel_rfl)) (by unfold Func.isWrapper; first | (rw [if_pos (by decide +kernel)]; kernel_rfl) | (rw [if_neg (by decide +kernel)]; exact ⟨rfl, rfl⟩))
    (fun os started H enc _ => lifted os started H enc)

theorem proved : Rows.FnNoStarCardSaid :=
  Claim7.holds_tied_plain_at .later [] Rows.fnNoStarCard.laidKinds true Rows.fnNoStarCard.stood.harness true over (fun _ h => by cases h) (by kernel_rfl) (fun _ h => by cases h) fnNoStar_row_tie rfl ⟨rfl, rfl⟩ (by kernel_rfl) rfl
    (fun f fn hf hfn => by
      obtain rfl : f = 10 := Option.some.inj ((show Tryd.prog.funcNamed Rows.fnNoStarRow.func = some 10 by kernel_rfl).symm.trans hf) |>.symm
      obtain rfl : fn = Tryd.f10 := (Option.some.inj (Tryd.func10.symm.trans hfn)).symm
      exact ⟨by kernel_rfl, fun j t ht => by
        rw [Tryd.params10] at ht
        have hm : t ∈ [22] := by simpa using Array.mem_of_getElem? ht
        have hall : ([22].all fun u => !Tryd.prog.wantsStandIn u) = true := by kernel_rfl
        exact (show Tryd.prog.wantsStandIn t = false by simpa using List.all_eq_true.1 hall t hm)⟩)
    (by kernel_rfl)
end Go.Proofs.YtgpcnckiabjefaaDoor.fnNoStar


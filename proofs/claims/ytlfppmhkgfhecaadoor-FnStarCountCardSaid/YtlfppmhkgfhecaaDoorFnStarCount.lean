/-
  A character other than a slash, as often as a number between stars, matches exactly the names without a slash that have it at least as often: the law returns true for every input and leaves it as it was. Conditions: none.
  The frame round the walk is the kit's own (proof-skeleton.mjs).
-/
import Derived.Test.YtlfppmhkgfhecaaDoorRows
import Derived.Test.YtlfppmhkgfhecaaDoorLawN
import Derived.Test.YtlfppmhkgfhecaaDoorDrawF
import Derived.Test.YtlfppmhkgfhecaaDoorHand
import Derived.Test.YtlfppmhkgfhecaaDoorStrC
import Derived.Test.YtlfppmhkgfhecaaDoorLate
import Derived.Test.YtlfppmhkgfhecaaDoorTie
import Derived.Test.YtlfppmhkgfhecaaDoorCards
import Derived.Test.YtlfppmhkgfhecaaDoorLaid
import Derived.LaidMore
import Derived.Lay
import Derived.SevenTiedAt
import Derived.Stop.Joined
namespace Go.Proofs.YtlfppmhkgfhecaaDoor.fnStarCount
open Go.ChangeShapes Go.WideShapes Go.ChangeAt Go.RowKit
open Go.ChangeMaps (open_string shut_string)
set_option linter.unusedVariables false

set_option maxRecDepth 100000 in
set_option maxHeartbeats 4000000 in
theorem walk (a : Option Addr) (len cap : Nat) (zs : List Int) (w : World) (hr : IsRow .u8 w a len cap zs) (ae : Addr) (hE : Env ae w) (hM : MaxAt w) :
    Calls Tryd.prog 14 #[.slice a len cap] w fun e w' => e = .returned (.bool true) ∧ Below w.heap.size w w' := by
  have HR := Lib.hid hr
  have HE := Lib.hid hE
  have HX := Lib.hid hM
  clear hr hE hM
  by_cases hlen : 1048576 < len
  · have hl' : (1048576 : Int) < len := by omega
    go_enter Tryd.func14, Tryd.ntmps14
    go_wp2
    go_ret
    exact ⟨rfl, Below.refl _ _⟩
  · have hl' : ¬ (1048576 : Int) < len := by omega
    go_enter Tryd.func14, Tryd.ntmps14
    go_wp2_with fail
    refine (drawTexts_any a len cap zs _ HR.out (by omega)).mono ?_
    rintro e w1 ⟨p, n, rfl, hpl, hnl, hb⟩
    have HE1 := Lib.hid (HE.out.on hb)
    have HB1 := Lib.hid hb
    clear hb HR HE
    go_wp2_with fail
    refine (validB ae _ p w1 HE1.out rfl (by omega)).mono ?_
    rintro e w2 ⟨rfl, hb⟩
    have HE2 := Lib.hid (HE1.out.on hb)
    have HB2 := Lib.hid (HB1.out.trans (hb.mono HB1.out.size))
    clear hb HE1 HB1
    generalize hA : Lib.validD p = A
    have HA := Lib.hid hA
    clear hA
    cases A with
    | false =>
      go_wp2
      go_ret
      exact ⟨rfl, HB2.out⟩
    | true =>
      go_wp2_with fail
      refine (validB ae _ n w2 HE2.out rfl (by omega)).mono ?_
      rintro e w3 ⟨rfl, hb⟩
      have HE3 := Lib.hid (HE2.out.on hb)
      have HB3 := Lib.hid (HB2.out.trans (hb.mono HB2.out.size))
      clear hb HE2 HB2
      generalize hV : Lib.validD n = V
      have HV := Lib.hid hV
      clear hV
      cases V with
      | false =>
        go_wp2
        go_ret
        exact ⟨rfl, HB3.out⟩
      | true =>
        by_cases hp0 : p = []
        · subst hp0
          clear HA HV
          go_wp2
          go_ret
          exact ⟨rfl, HB3.out⟩
        · have hne : p.isEmpty = false := by cases p with | nil => exact absurd rfl hp0 | cons => rfl
          have HN := Lib.hid hp0
          clear hp0
          go_wp2_with fail
          refine (hasPrefixB _ _ p [47] w3 rfl rfl).mono ?_
          rintro e w4 ⟨rfl, hb⟩
          have HE4 := Lib.hid (HE3.out.on hb)
          have HB4 := Lib.hid (HB3.out.trans (hb.mono HB3.out.size))
          clear hb HE3 HB3
          generalize hF : ([47] : Bs).isPrefixOf p = F
          have HF := Lib.hid hF
          clear hF
          cases F with
          | false =>
            obtain ⟨c, hc0, hsc, hc7⟩ := first_rune HA.out HN.out HF.out
            have HLW := Lib.hid (fun k => law_starCount hsc hc7 k n)
            have hc1 := enc_len c
            have hrl : (runes p).length ≤ p.length := runes_len _ p (Nat.le_refl _)
            have hr0 : 0 < (runes p).length := (List.getElem?_eq_some_iff.1 hc0).1
            have hr1 : (0 : Int) < ((runes p).length : Int) := by omega
            obtain ⟨cp, W1, hcv, hra, hg1, hsz1⟩ := conv_runes w4 p (by omega)
            have hb1 : Below w4.heap.size w4 W1 := ⟨hg1.os, hg1.tape, hg1.output, hg1.size, fun k hk => hg1.block k hk (by simp)⟩
            have HE5 := Lib.hid (HE4.out.on hb1)
            have HB5 := Lib.hid (HB4.out.trans (hb1.mono HB4.out.size))
            obtain ⟨_, hcp, hrc⟩ := hra
            obtain ⟨g2, o2, e4, hlt2, c5⟩ := hrc 0 c hc0
            injection e4 with e4
            injection e4 with e5 e6
            subst e5 e6
            rw [Nat.zero_add] at c5
            have hz := encode_size_le (c : Int)
            have HEN := Lib.hid (encode_enc c)
            obtain ⟨K, hK⟩ : ∃ K : Nat → Bs, K = fun k => ordP (List.replicate k (enc c)) := ⟨_, rfl⟩
            have HK0 : Hid (K 0 = [42]) := Lib.hid (by rw [hK]; rfl)
            have HKS : Hid (∀ k, K (k + 1) = K k ++ quoteB (enc c) ++ [42]) := Lib.hid (fun k => by rw [hK]; show ordP (List.replicate (k + 1) (enc c)) = _; rw [List.replicate_succ', ordP_snoc])
            have HKL : Hid (∀ k, mm (K k) n = (decide (k ≤ Lib.count n (enc c)) && !n.contains 47)) := Lib.hid (fun k => by rw [hK]; exact HLW.out k)
            have hql := quoteB_len (enc c)
            obtain ⟨Z, hZ⟩ : ∃ Z, Z = n.contains 47 := ⟨_, rfl⟩
            rw [← hZ] at HKL
            have HZ := Lib.hid hZ.symm
            clear hZ
            clear hrc hc0 hsc hc7 hg1 hb1 hK HLW HA HV HN HF HE4 HB4
            go_wp2
            go_loopw [6, 7] (fun pv i wr => ∃ (k : Nat) (P : ByteArray), i = .int .i64 (k : Nat) ∧ k ≤ 5 ∧ pv = .string P ∧ P.data.toList = K k ∧ P.size ≤ 1 + 21 * k ∧ Below W1.heap.size W1 wr) (fun _ i _ => 5 - (intOf i).toNat)
            case atStart => exact ⟨0, ⟨#[42]⟩, rfl, by omega, rfl, HK0.out.symm, Nat.le_refl _, Below.refl _ _⟩
            case round =>
              obtain ⟨k, P, rfl, hk, rfl, hP, hPs, hb⟩ := hrel
              have HP := Lib.hid hP
              have HB := Lib.hid hb
              have hKl : (K k).length = P.size := by rw [← hP]; rfl
              clear hP hb
              by_cases hk5 : k < 5
              · have hk5i : (k : Int) < 5 := by omega
                have HEW := Lib.hid (HE5.out.on HB.out)
                have HBW := Lib.hid (HB5.out.trans (HB.out.mono HB5.out.size))
                have HL := Lib.hid (HKL.out k)
                have HP2 : Hid ((P ++ ⟨(quoteB (enc c)).toArray⟩ ++ ⟨#[42]⟩ : ByteArray).data.toList = K (k + 1)) := Lib.hid (by rw [HKS.out, ba_app, ba_app, HP.out])
                obtain ⟨R, hR⟩ : ∃ R, R = Lib.count n (enc c) := ⟨_, rfl⟩
                rw [← hR] at HL
                have HRE := Lib.hid hR.symm
                have q1 : (⟨#[42]⟩ : ByteArray).size = 1 := rfl
                clear hR
                go_wp2_with fail
                refine (yesB ae P _ (K k) n wr HEW.out HP.out rfl (by omega) (by omega)).mono ?_
                rintro e x1 ⟨rfl, hb⟩
                rw [HL.out]
                have HE2 := Lib.hid (HEW.out.on hb)
                have HB2 := Lib.hid (HBW.out.trans (hb.mono HBW.out.size))
                have HC2 := Lib.hid (HB.out.trans (hb.mono HB.out.size))
                clear hb HEW HBW HB
                go_wp2_with fail
                refine (countC _ _ n (enc c) x1 (HX.out.on HB2.out) rfl HEN.out (by omega) (by omega)).mono ?_
                rintro e x2 ⟨rfl, hb⟩
                rw [HRE.out]
                have HE3 := Lib.hid (HE2.out.on hb)
                have HC3 := Lib.hid (HC2.out.trans (hb.mono HC2.out.size))
                clear hb HE2 HB2 HC2 HRE HL
                by_cases hkr : k ≤ R
                · have hkri : (k : Int) ≤ (R : Int) := by omega
                  rw [decide_eq_true hkr, Bool.true_and]
                  go_wp2_with fail
                  refine (slashB _ n x2 rfl).mono ?_
                  rintro e x3 ⟨rfl, hb⟩
                  have HC4 := Lib.hid (HC3.out.trans (hb.mono HC3.out.size))
                  rw [HZ.out]
                  clear hb HC3
                  clear hkr hkri
                  cases Z
                  all_goals
                    go_wp2_with fail
                    refine (quoteCB _ (enc c) x3 HEN.out (by omega)).mono ?_
                    rintro e x4 ⟨rfl, hb⟩
                    have HC5 := Lib.hid (HC4.out.trans (hb.mono HC4.out.size))
                    clear hb HC4
                    go_wp2
                    go_roundw
                    case rel => exact ⟨k + 1, _, by go_num, by omega, rfl, HP2.out, by (have h9 : (⟨(quoteB (enc c)).toArray⟩ : ByteArray).size = (quoteB (enc c)).length := rfl; simp only [ByteArray.size_append]; omega), HC5.out⟩
                    case measure => simp [intOf]; omega
                · have hkri : ¬ (k : Int) ≤ (R : Int) := by omega
                  rw [decide_eq_false hkr, Bool.false_and]
                  go_wp2_with fail
                  refine (quoteCB _ (enc c) x2 HEN.out (by omega)).mono ?_
                  rintro e x4 ⟨rfl, hb⟩
                  have HC5 := Lib.hid (HC3.out.trans (hb.mono HC3.out.size))
                  clear hb HC3
                  go_wp2
                  go_roundw
                  case rel => exact ⟨k + 1, _, by go_num, by omega, rfl, HP2.out, by (have h9 : (⟨(quoteB (enc c)).toArray⟩ : ByteArray).size = (quoteB (enc c)).length := rfl; simp only [ByteArray.size_append]; omega), HC5.out⟩
                  case measure => simp [intOf]; omega
              · obtain rfl : k = 5 := by omega
                have HBW := Lib.hid (HB5.out.trans (HB.out.mono HB5.out.size))
                clear HB
                go_wp2
                go_ret
                exact ⟨rfl, HBW.out⟩
          | true =>
            go_wp2
            go_ret
            exact ⟨rfl, HB4.out⟩


set_option maxRecDepth 100000 in
theorem lifted (os : Os) (started : os.Started) (H : Type) (enc : TypeId × Value → H) :
    ReturnsInHanded {} Tryd.checked os 14 .any (fun w args => (Rows.fnStarCountSpec.pre enc Tryd.prog Tryd.f14 Rows.fnStarCountRow.domain false w args ∧ laidMetH Tryd.prog Rows.fnStarCountRow.laid w) ∧ sizedMet enc Tryd.prog Tryd.f14 (OpenSpec.ofChange Rows.fnStarCountSpec) false w args) (Rows.fnStarCountSpec.post enc Tryd.prog Tryd.f14 false true false false) := by
  refine handed_shaped (C := Tryd.checked) (X := fun w _ => laidMetH Tryd.prog Rows.fnStarCountRow.laid w) (fun _ _ _ hh h => h.of_heap hh) own started (by kernel_rfl) Tryd.func14
    (ChangeSpec.witness_shaped (enc := enc) (C := Tryd.checked) (os := os) (X := fun w _ => laidMetH Tryd.prog Rows.fnStarCountRow.laid w) false (World.laidAll Tryd.prog os Rows.fnStarCountRow.laid) #[.slice none 0 0] 8 (World.laidAll_os _ _ _)
      (World.shaped_of_ZipB (by kernel_rfl) (by kernel_rfl)) (by kernel_rfl) (by kernel_rfl) (by kernel_rfl)
      (by rw [MakeChecks.laidMetH_plain _ _ _ (by kernel_rfl)]; exact laidMet_laidAll _ (by kernel_rfl) (by kernel_rfl))) ?_
  intro W base args ds gs before hval0 hW hcnd hsz0 hL hsh _
  have hval : ∀ (j : Nat) t v, Tryd.f14.params[j]? = some t → args[j]? = some v → Value.okWide Tryd.prog W .any base t v := hval0
  have hW' := hW
  obtain ⟨p, q, hA0, hV, rfl, hfz, hnd⟩ := hW
  have hA : DataW.TrodAll enc Tryd.prog W 0 (fun _ => true) true Tryd.f14.params.toList args.toList ds p := hA0
  rw [Tryd.params14] at hA hval
  obtain ⟨v0, vs0, d0, ds0, p0, q0, hargs, rfl, rfl, h0, r0⟩ := trodAll_cons hA
  obtain ⟨rfl, rfl, rfl⟩ := trodAll_nil r0
  obtain rfl : args = #[v0] := by cases args; simp_all
  obtain ⟨rfl, rfl⟩ := trodVars_none hV
  obtain ⟨a0, len0, cap0, rfl⟩ := okWide_slice Tryd.underlying22 (hval 0 22 v0 rfl rfl)
  have k0 := h0
  have lt0 : ∀ x ∈ p0, x.block < W.heap.size := by obtain ⟨m, hm⟩ := k0; exact DataW.trod_lt m _ _ _ hm
  obtain ⟨z0, w0⟩ : ∃ zs, IsRow .u8 W a0 len0 cap0 zs := by
    obtain ⟨fuel, hf⟩ := h0
    rcases open_ints Tryd.underlying22 Tryd.underlying5 (by kernel_rfl) hf with ⟨hcs, _⟩ | ⟨x, l, c, zs, hcs, _, hl, hm, hz, _, hcell, hwz⟩
    · simp [Value.cells] at hcs
      obtain ⟨rfl, rfl, rfl⟩ := hcs
      exact ⟨[], .inl ⟨rfl, rfl, rfl, rfl⟩⟩
    · simp [Value.cells] at hcs
      obtain ⟨rfl, rfl, rfl⟩ := hcs
      exact ⟨zs, .inr ⟨_, rfl, hl, hm, by simpa using hz, hcell, hwz⟩⟩
  obtain ⟨ae, hE⟩ := env_of hL
  have hM := max_of hsh
  clear hA0 hval0
  refine (walk a0 len0 cap0 z0 W w0 ae hE hM).mono fun e W' ⟨he, bel⟩ => ?_
  subst he
  exact ⟨_, rfl, _, _, _, [], _, [], hW', trodAll_mk1 (shut_bool Tryd.underlying4 _), (trodAll_cons_mk (Below.trod laidOut (by kernel_rfl) (of_decide_eq_true (by kernel_rfl)) k0 bel lt0) trodAll_mk0), rfl, bel.frame _, fun h => by cases h⟩

theorem over : Rows.fnStarCountRow.holds Tryd.pinned (OpenSpec.ofChange Rows.fnStarCountSpec) :=
  OpenClaim.holds_of_wide 14 Tryd.f14 rfl rfl rfl rfl rfl rfl rfl ⟨rfl, rfl, rfl, rfl, rfl⟩ rfl rfl rfl rfl rfl (by kernel_rfl) Tryd.func14 (by kernel_rfl)
    (of_decide_eq_true (by kernel_rfl)) (by unfold Func.isWrapper; first | (rw [if_pos (by decide +kernel)]; kernel_rfl) | (rw [if_neg (by decide +kernel)]; exact ⟨rfl, rfl⟩))
    (fun os started H enc _ => lifted os started H enc)

theorem proved : Rows.FnStarCountCardSaid :=
  Claim7.holds_tied_plain_at .later [] Rows.fnStarCountCard.laidKinds true Rows.fnStarCountCard.stood.harness true over (fun _ h => by cases h) (by kernel_rfl) (fun _ h => by cases h) fnStarCount_row_tie rfl ⟨rfl, rfl⟩ (by kernel_rfl) rfl
    (fun f fn hf hfn => by
      obtain rfl : f = 14 := Option.some.inj ((show Tryd.prog.funcNamed Rows.fnStarCountRow.func = some 14 by kernel_rfl).symm.trans hf) |>.symm
      obtain rfl : fn = Tryd.f14 := (Option.some.inj (Tryd.func14.symm.trans hfn)).symm
      exact ⟨by kernel_rfl, fun j t ht => by
        rw [Tryd.params14] at ht
        have hm : t ∈ [22] := by simpa using Array.mem_of_getElem? ht
        have hall : ([22].all fun u => !Tryd.prog.wantsStandIn u) = true := by kernel_rfl
        exact (show Tryd.prog.wantsStandIn t = false by simpa using List.all_eq_true.1 hall t hm)⟩)
    (by kernel_rfl)
end Go.Proofs.YtlfppmhkgfhecaaDoor.fnStarCount


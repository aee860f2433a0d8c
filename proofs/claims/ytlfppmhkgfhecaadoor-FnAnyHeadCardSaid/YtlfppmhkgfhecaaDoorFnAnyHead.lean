/-
  A question mark before a pattern matches a name exactly if it has a first character, which is no slash, and the pattern matches the others: the law returns true for every input and leaves it as it was. Conditions: none.
  The frame round the walk is the kit's own (proof-skeleton.mjs).
-/
import Derived.Test.YtlfppmhkgfhecaaDoorRows
import Derived.Test.YtlfppmhkgfhecaaDoorInv
import Derived.Test.YtlfppmhkgfhecaaDoorDrawM
import Derived.Test.YtlfppmhkgfhecaaDoorLate
import Derived.Test.YtlfppmhkgfhecaaDoorTie
import Derived.Test.YtlfppmhkgfhecaaDoorCards
import Derived.Test.YtlfppmhkgfhecaaDoorLaid
import Derived.LaidMore
import Derived.Lay
import Derived.SevenTiedAt
import Derived.Stop.Joined
namespace Go.Proofs.YtlfppmhkgfhecaaDoor.fnAnyHead
open Go.ChangeShapes Go.WideShapes Go.ChangeAt Go.RowKit
open Go.ChangeMaps (open_string shut_string)
set_option linter.unusedVariables false

set_option maxRecDepth 100000 in
set_option maxHeartbeats 12000000 in
theorem walk (a : Option Addr) (len cap : Nat) (zs : List Int) (w : World) (hr : IsRow .u8 w a len cap zs) (ae : Addr) (hE : Env ae w) :
    Calls Tryd.prog 10 #[.slice a len cap] w fun e w' => e = .returned (.bool true) ∧ Below w.heap.size w w' := by
  have HR := Lib.hid hr
  have HE := Lib.hid hE
  clear hr hE
  by_cases hlen : 1048576 < len
  · have hl' : (1048576 : Int) < len := by omega
    go_enter Tryd.func10, Tryd.ntmps10
    go_wp2
    go_ret
    exact ⟨rfl, Below.refl _ _⟩
  · have hl' : ¬ (1048576 : Int) < len := by omega
    go_enter Tryd.func10, Tryd.ntmps10
    go_wp2_with fail
    refine (drawMatch_any a len cap zs _ HR.out (by omega)).mono ?_
    rintro e w1 ⟨p, n, rfl, hpl, hnl, hb⟩
    have HE1 := Lib.hid (HE.out.on hb)
    have HB1 := Lib.hid hb
    clear hb HR HE
    go_wp2_with fail
    refine (yesStar ae w1 HE1.out).mono ?_
    rintro e w2 ⟨rfl, hb⟩
    have HE2 := Lib.hid (HE1.out.on hb)
    have HB2 := Lib.hid (HB1.out.trans (hb.mono HB1.out.size))
    clear hb HE1 HB1
    go_wp2_with fail
    refine (wellFormedB ae _ p w2 HE2.out rfl (by omega)).mono ?_
    rintro e w3 ⟨rfl, hb⟩
    have HE3 := Lib.hid (HE2.out.on hb)
    have HB3 := Lib.hid (HB2.out.trans (hb.mono HB2.out.size))
    clear hb HE2 HB2
    generalize hW : wfB p = W
    have HW := Lib.hid hW
    clear hW
    cases W with
    | false =>
      go_wp2_with fail
      refine (wellFormedB ae _ p w3 HE3.out rfl (by omega)).mono ?_
      rintro e w4 ⟨rfl, hb⟩
      have HE4 := Lib.hid (HE3.out.on hb)
      have HB4 := Lib.hid (HB3.out.trans (hb.mono HB3.out.size))
      clear hb HE3 HB3
      rw [HW.out]
      go_wp2
      go_ret
      exact ⟨rfl, HB4.out⟩
    | true =>
      have HQ := Lib.hid (law_anyHead (wf_terms HW.out).choose_spec.2.2.2.2)
      go_wp2_with fail
      refine (validB ae _ n w3 HE3.out rfl (by omega)).mono ?_
      rintro e w4 ⟨rfl, hb⟩
      have HE4 := Lib.hid (HE3.out.on hb)
      have HB4 := Lib.hid (HB3.out.trans (hb.mono HB3.out.size))
      clear hb HE3 HB3
      generalize hV : Lib.validD n = V
      have HV := Lib.hid hV
      clear hV
      cases V with
      | false =>
        go_wp2_with fail
        refine (wellFormedB ae _ p w4 HE4.out rfl (by omega)).mono ?_
        rintro e w5 ⟨rfl, hb⟩
        have HE5 := Lib.hid (HE4.out.on hb)
        have HB5 := Lib.hid (HB4.out.trans (hb.mono HB4.out.size))
        clear hb HE4 HB4
        rw [HW.out]
        go_wp2_with fail
        refine (yesB ae _ _ ([63] ++ p) [] w5 HE5.out (by simp) rfl (by simp; omega) (by simp)).mono ?_
        rintro e w6 ⟨rfl, hb⟩
        have HE6 := Lib.hid (HE5.out.on hb)
        have HB6 := Lib.hid (HB5.out.trans (hb.mono HB5.out.size))
        clear hb HE5 HB5
        rw [HQ.out.1]
        go_wp2
        go_ret
        exact ⟨rfl, HB6.out⟩
      | true =>
        cases n with
        | nil =>
          go_wp2_with fail
          refine (wellFormedB ae _ p w4 HE4.out rfl (by omega)).mono ?_
          rintro e w5 ⟨rfl, hb⟩
          have HE5 := Lib.hid (HE4.out.on hb)
          have HB5 := Lib.hid (HB4.out.trans (hb.mono HB4.out.size))
          clear hb HE4 HB4
          rw [HW.out]
          go_wp2_with fail
          refine (yesB ae _ _ ([63] ++ p) [] w5 HE5.out (by simp) rfl (by simp; omega) (by simp)).mono ?_
          rintro e w6 ⟨rfl, hb⟩
          have HE6 := Lib.hid (HE5.out.on hb)
          have HB6 := Lib.hid (HB5.out.trans (hb.mono HB5.out.size))
          clear hb HE5 HB5
          rw [HQ.out.1]
          go_wp2
          go_ret
          exact ⟨rfl, HB6.out⟩
        | cons c n =>
          have hnl2 : n.length + 1 ≤ 1048576 := hnl
          have hI : Inv ae w w4 := ⟨HE4.out, HB4.out⟩
          have HL := Lib.hid (HQ.out.2 c n)
          have hle := dec_le (c :: n)
          have HC : Hid ((cutsL (c :: n))[1]? = some (dec (c :: n)).2) := Lib.hid (by unfold cutsL; rw [cutsB_ne 0 _ (by simp), Nat.zero_add]; rfl)
          have hcl : 2 ≤ (cutsL (c :: n)).length := by
            rw [cutsL_len, runes_ne _ (by simp)]
            simp
          have HD : Hid (∀ e k, e = (c :: n).length → k = (dec (c :: n)).2 → ((⟨(c :: n).toArray⟩ : ByteArray).extract k e).data.toList = (c :: n).drop (dec (c :: n)).2) := Lib.hid (by
            rintro e k rfl rfl
            rw [ByteArray.data_extract, Array.toList_extract]
            show (((c :: n).drop (dec (c :: n)).2).take ((c :: n).length - (dec (c :: n)).2)) = _
            rw [List.take_of_length_le (by rw [List.length_drop]; omega)])
          have hdl : ((c :: n).drop (dec (c :: n)).2).length ≤ 1048576 := by rw [List.length_drop]; omega
          clear HE4 HB4 HQ HW HV
          generalize (c :: n).drop (dec (c :: n)).2 = D at *
          generalize (dec (c :: n)).2 = K at *
          obtain ⟨M, hM⟩ : ∃ M, M = mm p D := ⟨_, rfl⟩
          have HM := Lib.hid hM.symm
          clear hM
          have hcz : (c :: n).isEmpty = false := rfl
          obtain ⟨N, hN⟩ : ∃ N, N = c :: n := ⟨_, rfl⟩
          have hidx : ∃ h : 0 < N.length, N[0] = c := by subst hN; exact ⟨by simp, rfl⟩
          have hNl : N.length ≤ 1048576 := by rw [hN]; exact hnl
          rw [← hN] at HL HC hcl HD hcz hle ⊢
          clear hN hnl hnl2
          clear n
          obtain ⟨hn0, hN0⟩ := hidx
          have hn0i : (0 : Int) < (N.length : Int) := by omega
          have hK1 : (K : Int) ≤ (N.length : Int) := by omega
          have hz1 : ([63] ++ p).length ≤ 1000000000 := by simp; omega
          have hz2 : N.length ≤ 1000000000 := by omega
          have hz3 : p.length ≤ 1000000000 := by omega
          have hz4 : D.length ≤ 1000000000 := by omega
          have hz5 : N.length ≤ 100000000 := by omega
          by_cases c47 : c = 47
          · have HY : Hid (mm ([63] ++ p) N = false) := Lib.hid (by rw [HL.out, c47]; rfl)
            have hg0 : ((((⟨N.toArray⟩ : ByteArray)[0]'hn0).toNat : Int) != 47) = false := by
              have e : (⟨N.toArray⟩ : ByteArray)[0]'hn0 = 47 := by rw [← c47, ← hN0]; rfl
              rw [e]; rfl
            clear HL c47 hN0
            clear hcl hle HC HD hdl hK1
            go_wp2_with fail
            first | go_region_with (go_at_call 16; refine (yesI ae w ([63] ++ p) N hz1 hz2 _ _ _ ?_ ?_ ?_).mono ?_; (· simp; done); (· rfl); (· first | assumption | exact Inv.drew (by assumption)); rintro e w9 ⟨rfl, hI9, -⟩; rw [HY.out]) | fail
            all_goals
              go_wp2
              go_ret
              exact ⟨rfl, (by first | assumption | exact Inv.drew (by assumption) : Inv ae w _).2⟩
          · have HY : Hid (mm ([63] ++ p) N = M) := Lib.hid (by rw [HL.out, HM.out, decide_eq_true c47, Bool.true_and])
            have hg0 : ((((⟨N.toArray⟩ : ByteArray)[0]'hn0).toNat : Int) != 47) = true := by
              have e : (⟨N.toArray⟩ : ByteArray)[0]'hn0 = c := hN0
              have : c.toNat ≠ 47 := fun e => c47 (UInt8.toNat_inj.1 e)
              rw [e]
              simp
              omega
            have hcl2 : (1 : Int) < ((cutsL N).length : Int) := by omega
            clear HL c47 hN0
            go_wp2_with fail
            first | go_region_with (first | (go_at_call_of 16 (S N); refine (yesI ae w ([63] ++ p) N hz1 hz2 _ _ _ ?_ ?_ ?_).mono ?_; (· simp; done); (· rfl); (· first | assumption | exact Inv.drew (by assumption)); rintro e w9 ⟨rfl, hI9, -⟩; rw [HY.out]) | (go_at_call 25; refine (cutsI ae w N hz5 _ (by first | assumption | exact Inv.drew (by assumption))).mono ?_; rintro e w10 ⟨⟨g, cap, rfl, hg, hcell⟩, hI10, -⟩; have hce := hcell 1 K HC.out; clear hcell) | (go_at_call 16; refine (yesI ae w p D hz3 hz4 _ _ _ ?_ ?_ ?_).mono ?_; (· rfl); (· exact HD.out _ _ (by rfl) (by rfl)); (· first | assumption | exact Inv.drew (by assumption)); rintro e w11 ⟨rfl, hI11, -⟩; rw [HM.out])) | go_region_with (first | (go_at_call_of 16 (S N); refine (yesI ae w ([63] ++ p) N hz1 hz2 _ _ _ ?_ ?_ ?_).mono ?_; (· simp; done); (· rfl); (· first | assumption | exact Inv.drew (by assumption)); rintro e w9 ⟨rfl, hI9, -⟩; rw [HY.out]) | (go_at_call 25; refine (cutsI ae w N hz5 _ (by first | assumption | exact Inv.drew (by assumption))).mono ?_; rintro e w10 ⟨⟨g, cap, rfl, hg, hcell⟩, hI10, -⟩; have hce := hcell 1 K HC.out; clear hcell) | (go_at_call 16; refine (yesI ae w p D hz3 hz4 _ _ _ ?_ ?_ ?_).mono ?_; (· rfl); (· exact HD.out _ _ (by rfl) (by rfl)); (· first | assumption | exact Inv.drew (by assumption)); rintro e w11 ⟨rfl, hI11, -⟩; rw [HM.out]))
            all_goals
              go_wp2
              go_ret
              exact ⟨rfl, (by first | assumption | exact Inv.drew (by assumption) : Inv ae w _).2⟩


set_option maxRecDepth 100000 in
theorem lifted (os : Os) (started : os.Started) (H : Type) (enc : TypeId × Value → H) :
    ReturnsInHanded {} Tryd.checked os 10 .any (fun w args => (Rows.fnAnyHeadSpec.pre enc Tryd.prog Tryd.f10 Rows.fnAnyHeadRow.domain false w args ∧ laidMetH Tryd.prog Rows.fnAnyHeadRow.laid w) ∧ sizedMet enc Tryd.prog Tryd.f10 (OpenSpec.ofChange Rows.fnAnyHeadSpec) false w args) (Rows.fnAnyHeadSpec.post enc Tryd.prog Tryd.f10 false true false false) := by
  refine returnsInHanded_of_change_and (C := Tryd.checked) (X := fun w _ => laidMetH Tryd.prog Rows.fnAnyHeadRow.laid w) (fun _ _ _ hh h => h.of_heap hh) own started (by kernel_rfl) Tryd.func10
    (ChangeSpec.witness_shaped (enc := enc) (C := Tryd.checked) (os := os) (X := fun w _ => laidMetH Tryd.prog Rows.fnAnyHeadRow.laid w) false (World.laidAll Tryd.prog os Rows.fnAnyHeadRow.laid) #[.slice none 0 0] 8 (World.laidAll_os _ _ _)
      (World.shaped_of_ZipB (by kernel_rfl) (by kernel_rfl)) (by kernel_rfl) (by kernel_rfl) (by kernel_rfl)
      (by rw [MakeChecks.laidMetH_plain _ _ _ (by kernel_rfl)]; exact laidMet_laidAll _ (by kernel_rfl) (by kernel_rfl))) ?_
  intro W base args ds gs before hval0 hW hcnd hsz0 hL _
  have hval : ∀ (j : Nat) t v, Tryd.f10.params[j]? = some t → args[j]? = some v → Value.okWide Tryd.prog W .any base t v := hval0
  have hW' := hW
  obtain ⟨p, q, hA0, hV, rfl, hfz, hnd⟩ := hW
  have hA : DataW.TrodAll enc Tryd.prog W 0 (fun _ => true) true Tryd.f10.params.toList args.toList ds p := hA0
  rw [Tryd.params10] at hA hval
  obtain ⟨v0, vs0, d0, ds0, p0, q0, hargs, rfl, rfl, h0, r0⟩ := trodAll_cons hA
  obtain ⟨rfl, rfl, rfl⟩ := trodAll_nil r0
  obtain rfl : args = #[v0] := by cases args; simp_all
  obtain ⟨rfl, rfl⟩ := trodVars_none hV
  obtain ⟨a0, len0, cap0, rfl⟩ := okWide_slice Tryd.underlying22 (hval 0 22 v0 rfl rfl)
  have k0 := h0
  have lt0 : ∀ x ∈ p0, x.block < W.heap.size := by obtain ⟨m, hm⟩ := k0; exact DataW.trod_lt m _ _ _ hm
  obtain ⟨z0, w0⟩ : ∃ zs, IsRow .u8 W a0 len0 cap0 zs := by
    obtain ⟨fuel, hf⟩ := h0
    rcases open_ints Tryd.underlying22 Tryd.underlying5 (by kernel_rfl) hf with ⟨hcs, _⟩ | ⟨x, l, c, zs, hcs, _, hl, hm, hz, _, hcell, hwz⟩
    · simp [Value.cells] at hcs
      obtain ⟨rfl, rfl, rfl⟩ := hcs
      exact ⟨[], .inl ⟨rfl, rfl, rfl, rfl⟩⟩
    · simp [Value.cells] at hcs
      obtain ⟨rfl, rfl, rfl⟩ := hcs
      exact ⟨zs, .inr ⟨_, rfl, hl, hm, by simpa using hz, hcell, hwz⟩⟩
  obtain ⟨ae, hE⟩ := env_of hL
  clear hA0 hval0
  refine (walk a0 len0 cap0 z0 W w0 ae hE).mono fun e W' ⟨he, bel⟩ => ?_
  subst he
  exact ⟨_, rfl, _, _, _, [], _, [], hW', trodAll_mk1 (shut_bool Tryd.underlying4 _), (trodAll_cons_mk (Below.trod laidOut (by kernel_rfl) (of_decide_eq_true (by kernel_rfl)) k0 bel lt0) trodAll_mk0), rfl, bel.frame _, fun h => by cases h⟩

theorem over : Rows.fnAnyHeadRow.holds Tryd.pinned (OpenSpec.ofChange Rows.fnAnyHeadSpec) :=
  OpenClaim.holds_of_wide 10 Tryd.f10 rfl rfl rfl rfl rfl rfl rfl ⟨rfl, rfl, rfl, rfl, rfl⟩ rfl rfl rfl rfl rfl (by kernel_rfl) Tryd.func10 (by kernel_rfl)
    (of_decide_eq_true (by kernel_rfl)) (by unfold Func.isWrapper; first | (rw [if_pos (by decide +kernel)]; kernel_rfl) | (rw [if_neg (by decide +kernel)]; exact ⟨rfl, rfl⟩))
    (fun os started H enc _ => lifted os started H enc)

theorem proved : Rows.FnAnyHeadCardSaid :=
  Claim7.holds_tied_plain_at .later [] Rows.fnAnyHeadCard.laidKinds true Rows.fnAnyHeadCard.stood.harness true over (fun _ h => by cases h) (by kernel_rfl) (fun _ h => by cases h) fnAnyHead_row_tie rfl ⟨rfl, rfl⟩ (by kernel_rfl) rfl
    (fun f fn hf hfn => by
      obtain rfl : f = 10 := Option.some.inj ((show Tryd.prog.funcNamed Rows.fnAnyHeadRow.func = some 10 by kernel_rfl).symm.trans hf) |>.symm
      obtain rfl : fn = Tryd.f10 := (Option.some.inj (Tryd.func10.symm.trans hfn)).symm
      exact ⟨by kernel_rfl, fun j t ht => by
        rw [Tryd.params10] at ht
        have hm : t ∈ [22] := by simpa using Array.mem_of_getElem? ht
        have hall : ([22].all fun u => !Tryd.prog.wantsStandIn u) = true := by kernel_rfl
        exact (show Tryd.prog.wantsStandIn t = false by simpa using List.all_eq_true.1 hall t hm)⟩)
    (by kernel_rfl)
end Go.Proofs.YtlfppmhkgfhecaaDoor.fnAnyHead


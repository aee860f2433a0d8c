/-
  Of decided pairs, a question mark behind a pattern matches a name exactly if its last character is no slash, and the pattern matches the others: the law returns true for every input and leaves it as it was. Conditions: none.
  The frame round the walk is the kit's own (proof-skeleton.mjs).
-/
import Derived.Test.YtlfppmhkgfhecaaDoorRows
import Derived.Test.YtlfppmhkgfhecaaDoorInv
import Derived.Test.YtlfppmhkgfhecaaDoorDrawM
import Derived.Test.YtlfppmhkgfhecaaDoorLate
import Derived.Test.YtlfppmhkgfhecaaDoorTie
import Derived.Test.YtlfppmhkgfhecaaDoorCards
import Derived.Test.YtlfppmhkgfhecaaDoorLaid
import Derived.LaidMore
import Derived.Lay
import Derived.SevenTiedAt
import Derived.Stop.Joined
namespace Go.Proofs.YtlfppmhkgfhecaaDoor.fnAnyTail
open Go.ChangeShapes Go.WideShapes Go.ChangeAt Go.RowKit
open Go.ChangeMaps (open_string shut_string)
set_option linter.unusedVariables false

set_option maxRecDepth 100000 in
set_option maxHeartbeats 4000000 in
theorem walk (a : Option Addr) (len cap : Nat) (zs : List Int) (w : World) (hr : IsRow .u8 w a len cap zs) (ae : Addr) (hE : Env ae w) :
    Calls Tryd.prog 12 #[.slice a len cap] w fun e w' => e = .returned (.bool true) ∧ Below w.heap.size w w' := by
  have HR := Lib.hid hr
  have HE := Lib.hid hE
  clear hr hE
  by_cases hlen : 1048576 < len
  · have hl' : (1048576 : Int) < len := by omega
    go_enter Tryd.func12, Tryd.ntmps12
    go_wp2
    go_ret
    exact ⟨rfl, Below.refl _ _⟩
  · have hl' : ¬ (1048576 : Int) < len := by omega
    go_enter Tryd.func12, Tryd.ntmps12
    go_wp2_with fail
    refine (drawMatch_any a len cap zs _ HR.out (by omega)).mono ?_
    rintro e w1 ⟨p, n, rfl, hpl, hnl, hb⟩
    have HE1 := Lib.hid (HE.out.on hb)
    have HB1 := Lib.hid hb
    clear hb HR HE
    go_wp2_with fail
    refine (yesStar ae w1 HE1.out).mono ?_
    rintro e w2 ⟨rfl, hb⟩
    have HE2 := Lib.hid (HE1.out.on hb)
    have HB2 := Lib.hid (HB1.out.trans (hb.mono HB1.out.size))
    clear hb HE1 HB1
    go_wp2_with fail
    refine (wellFormedB ae _ p w2 HE2.out rfl (by omega)).mono ?_
    rintro e w3 ⟨rfl, hb⟩
    have HE3 := Lib.hid (HE2.out.on hb)
    have HB3 := Lib.hid (HB2.out.trans (hb.mono HB2.out.size))
    clear hb HE2 HB2
    generalize hA : wfB p = A
    have HA := Lib.hid hA
    clear hA
    cases A with
    | false =>
      go_wp2
      go_ret
      exact ⟨rfl, HB3.out⟩
    | true =>
      go_wp2_with fail
      refine (decidedCB ae _ _ (p ++ [63]) n w3 HE3.out (by simp) rfl (by simp; omega) (by omega)).mono ?_
      rintro e w4 ⟨rfl, hb⟩
      have HE4 := Lib.hid (HE3.out.on hb)
      have HB4 := Lib.hid (HB3.out.trans (hb.mono HB3.out.size))
      clear hb HE3 HB3
      generalize hD : decdB (p ++ [63]) n = D
      have HD := Lib.hid hD
      clear hD
      cases D with
      | false =>
        go_wp2
        go_ret
        exact ⟨rfl, HB4.out⟩
      | true =>
        by_cases hn : n = []
        · subst hn
          clear HA HD
          go_wp2
          go_ret
          exact ⟨rfl, HB4.out⟩
        · have hne : n.isEmpty = false := by cases n with | nil => exact absurd rfl hn | cons => rfl
          obtain ⟨h2, k, hk, hkn, hmm⟩ := law_anyTail HA.out HD.out hn
          have HK := Lib.hid hk
          have HM := Lib.hid hmm
          have hcl := cutsL_len n
          have hrl := runes_len _ n (Nat.le_refl _)
          clear HA HD hk hmm hn
          go_wp2_with fail
          refine (cuts_call ae n w4 HE4.out (by omega)).mono ?_
          rintro e w5 ⟨v, rfl, ⟨gg, cc, rfl, hcc, hcm, hgg, hcells⟩, hb⟩
          have HE5 := Lib.hid (HE4.out.on hb)
          have HB5 := Lib.hid (HB4.out.trans (hb.mono HB4.out.size))
          clear hb HE4 HB4
          unfold maxLen at hcm
          obtain ⟨J, hJ⟩ : ∃ J, (cutsL n).length = J + 2 := ⟨(cutsL n).length - 2, by omega⟩
          have ck := hcells J k (by have := HK.out; rw [hJ, Nat.add_sub_cancel] at this; exact this)
          have hJb : J ≤ 1048576 := by omega
          rw [hJ] at hcc ⊢
          clear HK hcells hJ h2 hcl hrl
          have z2 : ((J + 2 : Nat) : Int) - 2 = (J : Int) := by omega
          have z4 : (J : Int) < ((J + 2 : Nat) : Int) := by omega
          have z6 : (k : Int) ≤ (n.length : Int) := by omega
          have hI : Inv ae w w5 := ⟨HE5.out, HB5.out⟩
          have hz1 : (p ++ [63]).length ≤ 1000000000 := by simp; omega
          have hz2 : n.length ≤ 1000000000 := by omega
          have hz3 : p.length ≤ 1000000000 := by omega
          have hz4 : (n.take k).length ≤ 1000000000 := by rw [List.length_take]; omega
          have HD1 : Hid (∀ a e, a = 0 → e = k → ((⟨n.toArray⟩ : ByteArray).extract a e).data.toList = n.take k) := Lib.hid (fun a e ha he => ba_take n k a e ha he)
          clear HE5 HB5
          obtain ⟨M, hM⟩ : ∃ M, M = mm p (n.take k) := ⟨_, rfl⟩
          rw [← hM] at HM
          have HMP := Lib.hid hM.symm
          clear hM
          by_cases hs : n.drop k = [47]
          · have HY : Hid (mm (p ++ [63]) n = false) := Lib.hid (by rw [HM.out, hs]; rfl)
            have hx : (⟨n.toArray⟩ : ByteArray).extract k n.length = ⟨#[47]⟩ := by
              rw [ba_of ((⟨n.toArray⟩ : ByteArray).extract k n.length), ba_drop n k _ rfl, hs]
            have hz0 : (0 : Int) ≤ (k : Int) := by omega
            clear HM hs
            go_wp2_with fail
            first | go_region_with (go_at_call 16; refine (yesI ae w (p ++ [63]) n hz1 hz2 _ _ _ ?_ ?_ ?_).mono ?_; (· simp; done); (· rfl); (· first | assumption | exact Inv.drew (by assumption)); rintro e w9 ⟨rfl, hI9, -⟩; rw [HY.out]) | fail
            all_goals
              go_wp2
              go_ret
              exact ⟨rfl, (by first | assumption | exact Inv.drew (by assumption) : Inv ae w _).2⟩
          · have HY : Hid (mm (p ++ [63]) n = M) := Lib.hid (by rw [HM.out, decide_eq_true hs]; rfl)
            obtain ⟨T, hx⟩ : ∃ T : ByteArray, (⟨n.toArray⟩ : ByteArray).extract k n.length = T := ⟨_, rfl⟩
            have hTn : ¬ T = ⟨#[47]⟩ := by
              intro e
              apply hs
              rw [← ba_drop n k _ rfl, hx, e]
            have hne5 : (T.toList == [47]) = false := by rw [Lib.toList_data, beq_eq_false_iff_ne]; intro e; apply hs; rw [← ba_drop n k _ rfl, hx]; exact e
            have hne4 : decide (T = ⟨#[47]⟩) = false := decide_eq_false hTn
            have hz0 : (0 : Int) ≤ (k : Int) := by omega
            clear HM hs
            cases M
            all_goals
              go_wp2_with fail
              first | go_region_with (first | (go_at_call_of 16 (S n); refine (yesI ae w (p ++ [63]) n hz1 hz2 _ _ _ ?_ ?_ ?_).mono ?_; (· simp; done); (· rfl); (· first | assumption | exact Inv.drew (by assumption)); rintro e w9 ⟨rfl, hI9, -⟩; rw [HY.out]) | (go_at_call 16; refine (yesI ae w p (n.take k) hz3 hz4 _ _ _ ?_ ?_ ?_).mono ?_; (· rfl); (· exact HD1.out _ _ rfl rfl); (· first | assumption | exact Inv.drew (by assumption)); rintro e w9 ⟨rfl, hI9, -⟩; rw [HMP.out])) | fail
              all_goals
                go_wp2
                go_ret
                exact ⟨rfl, (by first | assumption | exact Inv.drew (by assumption) : Inv ae w _).2⟩


set_option maxRecDepth 100000 in
theorem lifted (os : Os) (started : os.Started) (H : Type) (enc : TypeId × Value → H) :
    ReturnsInHanded {} Tryd.checked os 12 .any (fun w args => (Rows.fnAnyTailSpec.pre enc Tryd.prog Tryd.f12 Rows.fnAnyTailRow.domain false w args ∧ laidMetH Tryd.prog Rows.fnAnyTailRow.laid w) ∧ sizedMet enc Tryd.prog Tryd.f12 (OpenSpec.ofChange Rows.fnAnyTailSpec) false w args) (Rows.fnAnyTailSpec.post enc Tryd.prog Tryd.f12 false true false false) := by
  refine returnsInHanded_of_change_and (C := Tryd.checked) (X := fun w _ => laidMetH Tryd.prog Rows.fnAnyTailRow.laid w) (fun _ _ _ hh h => h.of_heap hh) own started (by kernel_rfl) Tryd.func12
    (ChangeSpec.witness_shaped (enc := enc) (C := Tryd.checked) (os := os) (X := fun w _ => laidMetH Tryd.prog Rows.fnAnyTailRow.laid w) false (World.laidAll Tryd.prog os Rows.fnAnyTailRow.laid) #[.slice none 0 0] 8 (World.laidAll_os _ _ _)
      (World.shaped_of_ZipB (by kernel_rfl) (by kernel_rfl)) (by kernel_rfl) (by kernel_rfl) (by kernel_rfl)
      (by rw [MakeChecks.laidMetH_plain _ _ _ (by kernel_rfl)]; exact laidMet_laidAll _ (by kernel_rfl) (by kernel_rfl))) ?_
  intro W base args ds gs before hval0 hW hcnd hsz0 hL _
  have hval : ∀ (j : Nat) t v, Tryd.f12.params[j]? = some t → args[j]? = some v → Value.okWide Tryd.prog W .any base t v := hval0
  have hW' := hW
  obtain ⟨p, q, hA0, hV, rfl, hfz, hnd⟩ := hW
  have hA : DataW.TrodAll enc Tryd.prog W 0 (fun _ => true) true Tryd.f12.params.toList args.toList ds p := hA0
  rw [Tryd.params12] at hA hval
  obtain ⟨v0, vs0, d0, ds0, p0, q0, hargs, rfl, rfl, h0, r0⟩ := trodAll_cons hA
  obtain ⟨rfl, rfl, rfl⟩ := trodAll_nil r0
  obtain rfl : args = #[v0] := by cases args; simp_all
  obtain ⟨rfl, rfl⟩ := trodVars_none hV
  obtain ⟨a0, len0, cap0, rfl⟩ := okWide_slice Tryd.underlying22 (hval 0 22 v0 rfl rfl)
  have k0 := h0
  have lt0 : ∀ x ∈ p0, x.block < W.heap.size := by obtain ⟨m, hm⟩ := k0; exact DataW.trod_lt m _ _ _ hm
  obtain ⟨z0, w0⟩ : ∃ zs, IsRow .u8 W a0 len0 cap0 zs := by
    obtain ⟨fuel, hf⟩ := h0
    rcases open_ints Tryd.underlying22 Tryd.underlying5 (by kernel_rfl) hf with ⟨hcs, _⟩ | ⟨x, l, c, zs, hcs, _, hl, hm, hz, _, hcell, hwz⟩
    · simp [Value.cells] at hcs
      obtain ⟨rfl, rfl, rfl⟩ := hcs
      exact ⟨[], .inl ⟨rfl, rfl, rfl, rfl⟩⟩
    · simp [Value.cells] at hcs
      obtain ⟨rfl, rfl, rfl⟩ := hcs
      exact ⟨zs, .inr ⟨_, rfl, hl, hm, by simpa using hz, hcell, hwz⟩⟩
  obtain ⟨ae, hE⟩ := env_of hL
  clear hA0 hval0
  refine (walk a0 len0 cap0 z0 W w0 ae hE).mono fun e W' ⟨he, bel⟩ => ?_
  subst he
  exact ⟨_, rfl, _, _, _, [], _, [], hW', trodAll_mk1 (shut_bool Tryd.underlying4 _), (trodAll_cons_mk (Below.trod laidOut (by kernel_rfl) (of_decide_eq_true (by kernel_rfl)) k0 bel lt0) trodAll_mk0), rfl, bel.frame _, fun h => by cases h⟩

theorem over : Rows.fnAnyTailRow.holds Tryd.pinned (OpenSpec.ofChange Rows.fnAnyTailSpec) :=
  OpenClaim.holds_of_wide 12 Tryd.f12 rfl rfl rfl rfl rfl rfl rfl ⟨rfl, rfl, rfl, rfl, rfl⟩ rfl rfl rfl rfl rfl (by kernel_rfl) Tryd.func12 (by kernel_rfl)
    (of_decide_eq_true (by kernel_rfl)) (by unfold Func.isWrapper; first | (rw [if_pos (by decide +kernel)]; kernel_rfl) | (rw [if_neg (by decide +kernel)]; exact ⟨rfl, rfl⟩))
    (fun os started H enc _ => lifted os started H enc)

theorem proved : Rows.FnAnyTailCardSaid :=
  Claim7.holds_tied_plain_at .later [] Rows.fnAnyTailCard.laidKinds true Rows.fnAnyTailCard.stood.harness true over (fun _ h => by cases h) (by kernel_rfl) (fun _ h => by cases h) fnAnyTail_row_tie rfl ⟨rfl, rfl⟩ (by kernel_rfl) rfl
    (fun f fn hf hfn => by
      obtain rfl : f = 12 := Option.some.inj ((show Tryd.prog.funcNamed Rows.fnAnyTailRow.func = some 12 by kernel_rfl).symm.trans hf) |>.symm
      obtain rfl : fn = Tryd.f12 := (Option.some.inj (Tryd.func12.symm.trans hfn)).symm
      exact ⟨by kernel_rfl, fun j t ht => by
        rw [Tryd.params12] at ht
        have hm : t ∈ [22] := by simpa using Array.mem_of_getElem? ht
        have hall : ([22].all fun u => !Tryd.prog.wantsStandIn u) = true := by kernel_rfl
        exact (show Tryd.prog.wantsStandIn t = false by simpa using List.all_eq_true.1 hall t hm)⟩)
    (by kernel_rfl)
end Go.Proofs.YtlfppmhkgfhecaaDoor.fnAnyTail


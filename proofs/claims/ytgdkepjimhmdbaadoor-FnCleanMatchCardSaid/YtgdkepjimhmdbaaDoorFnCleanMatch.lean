/-
  What Clean returns has no empty element, no dot and no two dots but at the head: the law returns true for every input and leaves it as it was. Conditions: none.
  The frame round the walk is the kit's own (proof-skeleton.mjs).
-/
import Derived.Test.YtgdkepjimhmdbaaDoorRows
import Derived.Test.YtgdkepjimhmdbaaDoorDrawN
import Derived.Test.YtgdkepjimhmdbaaDoorStrC
import Derived.Test.YtgdkepjimhmdbaaDoorPathC
import Derived.Test.YtgdkepjimhmdbaaDoorLawK
import Derived.Test.YtgdkepjimhmdbaaDoorQuoteC
import Derived.Test.YtgdkepjimhmdbaaDoorTie
import Derived.Test.YtgdkepjimhmdbaaDoorCards
import Derived.Test.YtgdkepjimhmdbaaDoorLaid
import Derived.LaidMore
import Derived.Lay
import Derived.SevenTiedAt
import Derived.Stop.Joined
namespace Go.Proofs.YtgdkepjimhmdbaaDoor.fnCleanMatch
open Go.ChangeShapes Go.WideShapes Go.ChangeAt Go.RowKit
open Go.ChangeMaps (open_string shut_string)
set_option linter.unusedVariables false

set_option maxHeartbeats 2000000 in
theorem walk (a : Option Addr) (len cap : Nat) (zs : List Int) (w : World) (hr : IsRow .u8 w a len cap zs) (ae : Addr) (hE : Env ae w) :
    Calls Tryd.prog 11 #[.slice a len cap] w fun e w' => e = .returned (.bool true) ∧ Below w.heap.size w w' := by
  have HR := Lib.hid hr
  have HE := Lib.hid hE
  clear hr hE
  by_cases hlen : 1048576 < len
  · have hl' : (1048576 : Int) < len := by omega
    go_enter Tryd.func11, Tryd.ntmps11
    go_wp2
    go_ret
    exact ⟨rfl, Below.refl _ _⟩
  · have hl' : ¬ (1048576 : Int) < len := by omega
    go_enter Tryd.func11, Tryd.ntmps11
    go_wp2_with fail
    refine (drawClean_any a len cap zs _ HR.out (by omega)).mono ?_
    rintro e w1 ⟨p, rfl, hpl, hb⟩
    have HE1 := Lib.hid (HE.out.on hb)
    have HB1 := Lib.hid hb
    clear hb HR HE
    go_wp2_with fail
    refine (yesStar ae w1 HE1.out).mono ?_
    rintro e w2 ⟨rfl, hb⟩
    have HE2 := Lib.hid (HE1.out.on hb)
    have HB2 := Lib.hid (HB1.out.trans (hb.mono HB1.out.size))
    clear hb HE1 HB1
    have HX := Lib.hid (law_cleanMatch p)
    have hcl := Lib.Pa.clean_length_le_succ p
    go_wp2_with fail
    refine (cleanL p w2 (by omega)).mono ?_
    rintro e w3 ⟨rfl, hb⟩
    have HE3 := Lib.hid (HE2.out.on hb)
    have HB3 := Lib.hid (HB2.out.trans (hb.mono HB2.out.size))
    clear hb HE2 HB2
    generalize Lib.Pa.clean p = c at *
    go_wp2_with fail
    refine (yesB ae _ _ [42, 47, 47, 42] c w3 HE3.out rfl rfl (by simp) (by omega)).mono ?_
    rintro e w4 ⟨rfl, hb⟩
    have HE4 := Lib.hid (HE3.out.on hb)
    have HB4 := Lib.hid (HB3.out.trans (hb.mono HB3.out.size))
    clear hb HE3 HB3
    rw [HX.out.1]
    go_wp2_with fail
    refine (yesB ae _ _ [42, 47, 46, 47, 42] c w4 HE4.out rfl rfl (by simp) (by omega)).mono ?_
    rintro e w5 ⟨rfl, hb⟩
    have HE5 := Lib.hid (HE4.out.on hb)
    have HB5 := Lib.hid (HB4.out.trans (hb.mono HB4.out.size))
    clear hb HE4 HB4
    rw [HX.out.2.1]
    go_wp2_with fail
    refine (yesB ae _ _ [46, 47, 42] c w5 HE5.out rfl rfl (by simp) (by omega)).mono ?_
    rintro e w6 ⟨rfl, hb⟩
    have HE6 := Lib.hid (HE5.out.on hb)
    have HB6 := Lib.hid (HB5.out.trans (hb.mono HB5.out.size))
    clear hb HE5 HB5
    rw [HX.out.2.2.1]
    go_wp2_with fail
    refine (yesB ae _ _ [42, 47, 46] c w6 HE6.out rfl rfl (by simp) (by omega)).mono ?_
    rintro e w7 ⟨rfl, hb⟩
    have HE7 := Lib.hid (HE6.out.on hb)
    have HB7 := Lib.hid (HB6.out.trans (hb.mono HB6.out.size))
    clear hb HE6 HB6
    rw [HX.out.2.2.2.1]
    go_wp2_with fail
    refine (yesB ae _ _ [47, 46, 46] c w7 HE7.out rfl rfl (by simp) (by omega)).mono ?_
    rintro e w8 ⟨rfl, hb⟩
    have HE8 := Lib.hid (HE7.out.on hb)
    have HB8 := Lib.hid (HB7.out.trans (hb.mono HB7.out.size))
    clear hb HE7 HB7
    rw [HX.out.2.2.2.2.1]
    go_wp2_with fail
    refine (yesB ae _ _ [47, 46, 46, 47, 42] c w8 HE8.out rfl rfl (by simp) (by omega)).mono ?_
    rintro e w9 ⟨rfl, hb⟩
    have HE9 := Lib.hid (HE8.out.on hb)
    have HB9 := Lib.hid (HB8.out.trans (hb.mono HB8.out.size))
    clear hb HE8 HB8
    rw [HX.out.2.2.2.2.2.1]
    have HZ := Lib.hid (HX.out.2.2.2.2.2.2)
    clear HX
    by_cases hc : c = [47]
    · subst hc
      clear HZ
      go_wp2_with fail
      refine (yesB ae _ _ [42, 47] [47] w9 HE9.out rfl rfl (by simp) (by simp)).mono ?_
      rintro e w10 ⟨rfl, hb⟩
      have HE10 := Lib.hid (HE9.out.on hb)
      have HB10 := Lib.hid (HB9.out.trans (hb.mono HB9.out.size))
      clear hb HE9 HB9
      rw [show mm [42, 47] [47] = true from rfl]
      go_wp2_with fail
      refine (yesB ae _ _ [42, 47, 46, 46] [47] w10 HE10.out rfl rfl (by simp) (by simp)).mono ?_
      rintro e w11 ⟨rfl, hb⟩
      have HE11 := Lib.hid (HE10.out.on hb)
      have HB11 := Lib.hid (HB10.out.trans (hb.mono HB10.out.size))
      clear hb HE10 HB10
      rw [show mm [42, 47, 46, 46] [47] = false from rfl]
      go_wp2_with fail
      refine (yesB ae _ _ [42, 47, 46, 46, 47, 42] [47] w11 HE11.out rfl rfl (by simp) (by simp)).mono ?_
      rintro e w12 ⟨rfl, hb⟩
      have HE12 := Lib.hid (HE11.out.on hb)
      have HB12 := Lib.hid (HB11.out.trans (hb.mono HB11.out.size))
      clear hb HE11 HB11
      rw [show mm [42, 47, 46, 46, 47, 42] [47] = false from rfl]
      go_wp2
      go_ret
      exact ⟨rfl, HB12.out⟩
    · have HZ1 : Hid (mm [42, 47] c = false) := Lib.hid (by rw [HZ.out.1]; exact decide_eq_false hc)
      have HZ2 := Lib.hid HZ.out.2
      have hc2 : (c == [47]) = false := by simpa using hc
      clear HZ
      go_wp2_with fail
      refine (yesB ae _ _ [42, 47] c w9 HE9.out rfl rfl (by simp) (by omega)).mono ?_
      rintro e w10 ⟨rfl, hb⟩
      have HE10 := Lib.hid (HE9.out.on hb)
      have HB10 := Lib.hid (HB9.out.trans (hb.mono HB9.out.size))
      clear hb HE9 HB9
      rw [HZ1.out]
      go_wp2_with fail
      refine (yesB ae _ _ [42, 47, 46, 46] c w10 HE10.out rfl rfl (by simp) (by omega)).mono ?_
      rintro e w11 ⟨rfl, hb⟩
      have HE11 := Lib.hid (HE10.out.on hb)
      have HB11 := Lib.hid (HB10.out.trans (hb.mono HB10.out.size))
      clear hb HE10 HB10
      generalize hA : mm [42, 47, 46, 46] c = A
      have HA := Lib.hid hA
      clear hA
      cases A with
      | false =>
        go_wp2_with fail
        refine (yesB ae _ _ [42, 47, 46, 46, 47, 42] c w11 HE11.out rfl rfl (by simp) (by omega)).mono ?_
        rintro e w12 ⟨rfl, hb⟩
        have HE12 := Lib.hid (HE11.out.on hb)
        have HB12 := Lib.hid (HB11.out.trans (hb.mono HB11.out.size))
        clear hb HE11 HB11
        generalize hB : mm [42, 47, 46, 46, 47, 42] c = B
        have HB := Lib.hid hB
        clear hB
        cases B with
        | false =>
          go_wp2
          go_ret
          exact ⟨rfl, HB12.out⟩
        | true =>
          have HT := Lib.hid (HZ2.out.2 HB.out)
          go_wp2_with fail
          refine (yesB ae _ _ [46, 46, 47, 46, 46, 47, 42] c w12 HE12.out rfl rfl (by simp) (by omega)).mono ?_
          rintro e w13 ⟨rfl, hb⟩
          have HE13 := Lib.hid (HE12.out.on hb)
          have HB13 := Lib.hid (HB12.out.trans (hb.mono HB12.out.size))
          clear hb HE12 HB12
          rw [HT.out]
          go_wp2
          go_ret
          exact ⟨rfl, HB13.out⟩
      | true =>
        have hc := HZ2.out.1 HA.out
        subst hc
        clear HZ2 HZ1 HA
        go_wp2_with fail
        refine (yesB ae _ _ [42, 47, 46, 46, 47, 42] [46, 46, 47, 46, 46] w11 HE11.out rfl rfl (by simp) (by simp)).mono ?_
        rintro e w12 ⟨rfl, hb⟩
        have HE12 := Lib.hid (HE11.out.on hb)
        have HB12 := Lib.hid (HB11.out.trans (hb.mono HB11.out.size))
        clear hb HE11 HB11
        rw [show mm [42, 47, 46, 46, 47, 42] [46, 46, 47, 46, 46] = false from rfl]
        go_wp2
        go_ret
        exact ⟨rfl, HB12.out⟩


set_option maxRecDepth 100000 in
theorem lifted (os : Os) (started : os.Started) (H : Type) (enc : TypeId × Value → H) :
    ReturnsInHanded {} Tryd.checked os 11 .any (fun w args => (Rows.fnCleanMatchSpec.pre enc Tryd.prog Tryd.f11 Rows.fnCleanMatchRow.domain false w args ∧ laidMetH Tryd.prog Rows.fnCleanMatchRow.laid w) ∧ sizedMet enc Tryd.prog Tryd.f11 (OpenSpec.ofChange Rows.fnCleanMatchSpec) false w args) (Rows.fnCleanMatchSpec.post enc Tryd.prog Tryd.f11 false true false false) := by
  refine returnsInHanded_of_change_and (C := Tryd.checked) (X := fun w _ => laidMetH Tryd.prog Rows.fnCleanMatchRow.laid w) (fun _ _ _ hh h => h.of_heap hh) own started (by kernel_rfl) Tryd.func11
    (ChangeSpec.witness_shaped (enc := enc) (C := Tryd.checked) (os := os) (X := fun w _ => laidMetH Tryd.prog Rows.fnCleanMatchRow.laid w) false (World.laidAll Tryd.prog os Rows.fnCleanMatchRow.laid) #[.slice none 0 0] 8 (World.laidAll_os _ _ _)
      (World.shaped_of_ZipB (by kernel_rfl) (by kernel_rfl)) (by kernel_rfl) (by kernel_rfl) (by kernel_rfl)
      (by rw [MakeChecks.laidMetH_plain _ _ _ (by kernel_rfl)]; exact laidMet_laidAll _ (by kernel_rfl) (by kernel_rfl))) ?_
  intro W base args ds gs before hval0 hW hcnd hsz0 hL _
  have hval : ∀ (j : Nat) t v, Tryd.f11.params[j]? = some t → args[j]? = some v → Value.okWide Tryd.prog W .any base t v := hval0
  have hW' := hW
  obtain ⟨p, q, hA0, hV, rfl, hfz, hnd⟩ := hW
  have hA : DataW.TrodAll enc Tryd.prog W 0 (fun _ => true) true Tryd.f11.params.toList args.toList ds p := hA0
  rw [Tryd.params11] at hA hval
  obtain ⟨v0, vs0, d0, ds0, p0, q0, hargs, rfl, rfl, h0, r0⟩ := trodAll_cons hA
  obtain ⟨rfl, rfl, rfl⟩ := trodAll_nil r0
  obtain rfl : args = #[v0] := by cases args; simp_all
  obtain ⟨rfl, rfl⟩ := trodVars_none hV
  obtain ⟨a0, len0, cap0, rfl⟩ := okWide_slice Tryd.underlying22 (hval 0 22 v0 rfl rfl)
  have k0 := h0
  have lt0 : ∀ x ∈ p0, x.block < W.heap.size := by obtain ⟨m, hm⟩ := k0; exact DataW.trod_lt m _ _ _ hm
  obtain ⟨z0, w0⟩ : ∃ zs, IsRow .u8 W a0 len0 cap0 zs := by
    obtain ⟨fuel, hf⟩ := h0
    rcases open_ints Tryd.underlying22 Tryd.underlying5 (by kernel_rfl) hf with ⟨hcs, _⟩ | ⟨x, l, c, zs, hcs, _, hl, hm, hz, _, hcell, hwz⟩
    · simp [Value.cells] at hcs
      obtain ⟨rfl, rfl, rfl⟩ := hcs
      exact ⟨[], .inl ⟨rfl, rfl, rfl, rfl⟩⟩
    · simp [Value.cells] at hcs
      obtain ⟨rfl, rfl, rfl⟩ := hcs
      exact ⟨zs, .inr ⟨_, rfl, hl, hm, by simpa using hz, hcell, hwz⟩⟩
  obtain ⟨ae, hE⟩ := env_of hL
  clear hA0 hval0
  refine (walk a0 len0 cap0 z0 W w0 ae hE).mono fun e W' ⟨he, bel⟩ => ?_
  subst he
  exact ⟨_, rfl, _, _, _, [], _, [], hW', trodAll_mk1 (shut_bool Tryd.underlying4 _), (trodAll_cons_mk (Below.trod laidOut (by kernel_rfl) (of_decide_eq_true (by kernel_rfl)) k0 bel lt0) trodAll_mk0), rfl, bel.frame _, fun h => by cases h⟩

theorem over : Rows.fnCleanMatchRow.holds Tryd.pinned (OpenSpec.ofChange Rows.fnCleanMatchSpec) :=
  OpenClaim.holds_of_wide 11 Tryd.f11 rfl rfl rfl rfl rfl rfl rfl ⟨rfl, rfl, rfl, rfl, rfl⟩ rfl rfl rfl rfl rfl (by kernel_rfl) Tryd.func11 (by kernel_rfl)
    (of_decide_eq_true (by kernel_rfl)) (by unfold Func.isWrapper; first | (rw [if_pos (by decide +kernel)]; kernel_rfl) | (rw [if_neg (by decide +kernel)]; exact ⟨rfl, rfl⟩))
    (fun os started H enc _ => lifted os started H enc)

theorem proved : Rows.FnCleanMatchCardSaid :=
  Claim7.holds_tied_plain_at .later [] Rows.fnCleanMatchCard.laidKinds true Rows.fnCleanMatchCard.stood.harness true over (fun _ h => by cases h) (by kernel_rfl) (fun _ h => by cases h) fnCleanMatch_row_tie rfl ⟨rfl, rfl⟩ (by kernel_rfl) rfl
    (fun f fn hf hfn => by
      obtain rfl : f = 11 := Option.some.inj ((show Tryd.prog.funcNamed Rows.fnCleanMatchRow.func = some 11 by kernel_rfl).symm.trans hf) |>.symm
      obtain rfl : fn = Tryd.f11 := (Option.some.inj (Tryd.func11.symm.trans hfn)).symm
      exact ⟨by kernel_rfl, fun j t ht => by
        rw [Tryd.params11] at ht
        have hm : t ∈ [22] := by simpa using Array.mem_of_getElem? ht
        have hall : ([22].all fun u => !Tryd.prog.wantsStandIn u) = true := by kernel_rfl
        exact (show Tryd.prog.wantsStandIn t = false by simpa using List.all_eq_true.1 hall t hm)⟩)
    (by kernel_rfl)
end Go.Proofs.YtgdkepjimhmdbaaDoor.fnCleanMatch


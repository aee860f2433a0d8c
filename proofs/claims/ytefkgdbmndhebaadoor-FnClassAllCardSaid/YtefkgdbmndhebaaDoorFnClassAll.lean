/-
  A class of all characters answers every name without a slash as a question mark does: the law returns true for every input and leaves it as it was. Conditions: none.
  The frame round the walk is the kit's own (proof-skeleton.mjs).
-/
import Derived.Test.YtefkgdbmndhebaaDoorRows
import Derived.Test.YtefkgdbmndhebaaDoorDecC
import Derived.Test.YtefkgdbmndhebaaDoorQuoteC
import Derived.Test.YtefkgdbmndhebaaDoorDrawN
import Derived.Test.YtefkgdbmndhebaaDoorImplB
import Derived.Test.YtefkgdbmndhebaaDoorTie
import Derived.Test.YtefkgdbmndhebaaDoorCards
import Derived.Test.YtefkgdbmndhebaaDoorLaid
import Derived.LaidMore
import Derived.Lay
import Derived.SevenTiedAt
import Derived.Stop.Joined
namespace Go.Proofs.YtefkgdbmndhebaaDoor.fnClassAll
open Go.ChangeShapes Go.WideShapes Go.ChangeAt Go.RowKit
open Go.ChangeMaps (open_string shut_string)
set_option linter.unusedVariables false

set_option maxHeartbeats 2000000 in
theorem walk (a : Option Addr) (len cap : Nat) (zs : List Int) (w : World) (hr : IsRow .u8 w a len cap zs) (ae : Addr) (hE : Env ae w) :
    Calls Tryd.prog 5 #[.slice a len cap] w fun e w' => e = .returned (.bool true) ∧ Below w.heap.size w w' := by
  have HR := Lib.hid hr
  have HE := Lib.hid hE
  clear hr hE
  by_cases hlen : 1048576 < len
  · have hl' : (1048576 : Int) < len := by omega
    go_enter Tryd.func5, Tryd.ntmps5
    go_wp2
    go_ret
    exact ⟨rfl, Below.refl _ _⟩
  · have hl' : ¬ (1048576 : Int) < len := by omega
    go_enter Tryd.func5, Tryd.ntmps5
    go_wp2_with fail
    refine (drawConcat_any a len cap zs _ HR.out (by omega)).mono ?_
    rintro e w1 ⟨p, q, n, rfl, hpl, hql, hnl, hb⟩
    have HE1 := Lib.hid (HE.out.on hb)
    have HB1 := Lib.hid hb
    clear hb HR HE
    go_wp2_with fail
    refine (yesStar ae w1 HE1.out).mono ?_
    rintro e w2 ⟨rfl, hb⟩
    have HE2 := Lib.hid (HE1.out.on hb)
    have HB2 := Lib.hid (HB1.out.trans (hb.mono HB1.out.size))
    clear hb HE1 HB1
    go_wp2_with fail
    refine (wellFormedB ae _ p w2 HE2.out rfl (by omega)).mono ?_
    rintro e w3 ⟨rfl, hb⟩
    have HE3 := Lib.hid (HE2.out.on hb)
    have HB3 := Lib.hid (HB2.out.trans (hb.mono HB2.out.size))
    clear hb HE2 HB2
    generalize hA : wfB p = A
    have HA := Lib.hid hA
    clear hA
    cases A with
    | false =>
      go_wp2
      go_ret
      exact ⟨rfl, HB3.out⟩
    | true =>
      go_wp2_with fail
      refine (wellFormedB ae _ q w3 HE3.out rfl (by omega)).mono ?_
      rintro e w4 ⟨rfl, hb⟩
      have HE4 := Lib.hid (HE3.out.on hb)
      have HB4 := Lib.hid (HB3.out.trans (hb.mono HB3.out.size))
      clear hb HE3 HB3
      generalize hB : wfB q = B
      have HB := Lib.hid hB
      clear hB
      cases B with
      | false =>
        go_wp2
        go_ret
        exact ⟨rfl, HB4.out⟩
      | true =>
        go_wp2_with fail
        refine (validB ae _ n w4 HE4.out rfl (by omega)).mono ?_
        rintro e w5 ⟨rfl, hb⟩
        have HE5 := Lib.hid (HE4.out.on hb)
        have HB5 := Lib.hid (HB4.out.trans (hb.mono HB4.out.size))
        clear hb HE4 HB4
        generalize hC : Lib.validD n = C
        have HC := Lib.hid hC
        clear hC
        cases C with
        | false =>
          go_wp2
          go_ret
          exact ⟨rfl, HB5.out⟩
        | true =>
          go_wp2_with fail
          refine (slashB _ n w5 rfl).mono ?_
          rintro e w6 ⟨rfl, hb⟩
          have HE6 := Lib.hid (HE5.out.on hb)
          have HB6 := Lib.hid (HB5.out.trans (hb.mono HB5.out.size))
          clear hb HE5 HB5
          generalize hZ : n.contains 47 = Z
          have HZ := Lib.hid hZ
          clear hZ
          cases Z with
          | false =>
            have HQ := Lib.hid (law_classAll (wf_terms HA.out).choose_spec.2.2.2.2 (wf_terms HB.out).choose_spec.2.2.2.2 HZ.out)
            clear HA HB HC HZ
            go_wp2_with fail
            refine (alikeB ae _ _ _ (p ++ [91, 94, 98, 45, 97, 93] ++ q) (p ++ [63] ++ q) n w6 HE6.out (by simp) (by simp) rfl (by simp; omega) (by simp; omega) (by omega)).mono ?_
            rintro e w7 ⟨rfl, hb⟩
            have HE7 := Lib.hid (HE6.out.on hb)
            have HB7 := Lib.hid (HB6.out.trans (hb.mono HB6.out.size))
            clear hb HE6 HB6
            rw [HQ.out]
            clear HQ
            go_wp2
            go_ret
            exact ⟨rfl, HB7.out⟩
          | true =>
            go_wp2
            go_ret
            exact ⟨rfl, HB6.out⟩


set_option maxRecDepth 100000 in
theorem lifted (os : Os) (started : os.Started) (H : Type) (enc : TypeId × Value → H) :
    ReturnsInHanded {} Tryd.checked os 5 .any (fun w args => (Rows.fnClassAllSpec.pre enc Tryd.prog Tryd.f5 Rows.fnClassAllRow.domain false w args ∧ laidMetH Tryd.prog Rows.fnClassAllRow.laid w) ∧ sizedMet enc Tryd.prog Tryd.f5 (OpenSpec.ofChange Rows.fnClassAllSpec) false w args) (Rows.fnClassAllSpec.post enc Tryd.prog Tryd.f5 false true false false) := by
  refine returnsInHanded_of_change_and (C := Tryd.checked) (X := fun w _ => laidMetH Tryd.prog Rows.fnClassAllRow.laid w) (fun _ _ _ hh h => h.of_heap hh) own started (by kernel_rfl) Tryd.func5
    (ChangeSpec.witness_shaped (enc := enc) (C := Tryd.checked) (os := os) (X := fun w _ => laidMetH Tryd.prog Rows.fnClassAllRow.laid w) false (World.laidAll Tryd.prog os Rows.fnClassAllRow.laid) #[.slice none 0 0] 8 (World.laidAll_os _ _ _)
      (World.shaped_of_ZipB (by kernel_rfl) (by kernel_rfl)) (by kernel_rfl) (by kernel_rfl) (by kernel_rfl)
      (by rw [MakeChecks.laidMetH_plain _ _ _ (by kernel_rfl)]; exact laidMet_laidAll _ (by kernel_rfl) (by kernel_rfl))) ?_
  intro W base args ds gs before hval0 hW hcnd hsz0 hL _
  have hval : ∀ (j : Nat) t v, Tryd.f5.params[j]? = some t → args[j]? = some v → Value.okWide Tryd.prog W .any base t v := hval0
  have hW' := hW
  obtain ⟨p, q, hA0, hV, rfl, hfz, hnd⟩ := hW
  have hA : DataW.TrodAll enc Tryd.prog W 0 (fun _ => true) true Tryd.f5.params.toList args.toList ds p := hA0
  rw [Tryd.params5] at hA hval
  obtain ⟨v0, vs0, d0, ds0, p0, q0, hargs, rfl, rfl, h0, r0⟩ := trodAll_cons hA
  obtain ⟨rfl, rfl, rfl⟩ := trodAll_nil r0
  obtain rfl : args = #[v0] := by cases args; simp_all
  obtain ⟨rfl, rfl⟩ := trodVars_none hV
  obtain ⟨a0, len0, cap0, rfl⟩ := okWide_slice Tryd.underlying22 (hval 0 22 v0 rfl rfl)
  have k0 := h0
  have lt0 : ∀ x ∈ p0, x.block < W.heap.size := by obtain ⟨m, hm⟩ := k0; exact DataW.trod_lt m _ _ _ hm
  obtain ⟨z0, w0⟩ : ∃ zs, IsRow .u8 W a0 len0 cap0 zs := by
    obtain ⟨fuel, hf⟩ := h0
    rcases open_ints Tryd.underlying22 Tryd.underlying5 (by kernel_rfl) hf with ⟨hcs, _⟩ | ⟨x, l, c, zs, hcs, _, hl, hm, hz, _, hcell, hwz⟩
    · simp [Value.cells] at hcs
      obtain ⟨rfl, rfl, rfl⟩ := hcs
      exact ⟨[], .inl ⟨rfl, rfl, rfl, rfl⟩⟩
    · simp [Value.cells] at hcs
      obtain ⟨rfl, rfl, rfl⟩ := hcs
      exact ⟨zs, .inr ⟨_, rfl, hl, hm, by simpa using hz, hcell, hwz⟩⟩
  obtain ⟨ae, hE⟩ := env_of hL
  clear hA0 hval0
  refine (walk a0 len0 cap0 z0 W w0 ae hE).mono fun e W' ⟨he, bel⟩ => ?_
  subst he
  exact ⟨_, rfl, _, _, _, [], _, [], hW', trodAll_mk1 (shut_bool Tryd.underlying4 _), (trodAll_cons_mk (Below.trod laidOut (by kernel_rfl) (of_decide_eq_true (by kernel_rfl)) k0 bel lt0) trodAll_mk0), rfl, bel.frame _, fun h => by cases h⟩

theorem over : Rows.fnClassAllRow.holds Tryd.pinned (OpenSpec.ofChange Rows.fnClassAllSpec) :=
  OpenClaim.holds_of_wide 5 Tryd.f5 rfl rfl rfl rfl rfl rfl rfl ⟨rfl, rfl, rfl, rfl, rfl⟩ rfl rfl rfl rfl rfl (by kernel_rfl) Tryd.func5 (by kernel_rfl)
    (of_decide_eq_true (by kernel_rfl)) (by unfold Func.isWrapper; first | (rw [if_pos (by decide +kernel)]; kernel_rfl) | (rw [if_neg (by decide +kernel)]; exact ⟨rfl, rfl⟩))
    (fun os started H enc _ => lifted os started H enc)

theorem proved : Rows.FnClassAllCardSaid :=
  Claim7.holds_tied_plain_at .later [] Rows.fnClassAllCard.laidKinds true Rows.fnClassAllCard.stood.harness true over (fun _ h => by cases h) (by kernel_rfl) (fun _ h => by cases h) fnClassAll_row_tie rfl ⟨rfl, rfl⟩ (by kernel_rfl) rfl
    (fun f fn hf hfn => by
      obtain rfl : f = 5 := Option.some.inj ((show Tryd.prog.funcNamed Rows.fnClassAllRow.func = some 5 by kernel_rfl).symm.trans hf) |>.symm
      obtain rfl : fn = Tryd.f5 := (Option.some.inj (Tryd.func5.symm.trans hfn)).symm
      exact ⟨by kernel_rfl, fun j t ht => by
        rw [Tryd.params5] at ht
        have hm : t ∈ [22] := by simpa using Array.mem_of_getElem? ht
        have hall : ([22].all fun u => !Tryd.prog.wantsStandIn u) = true := by kernel_rfl
        exact (show Tryd.prog.wantsStandIn t = false by simpa using List.all_eq_true.1 hall t hm)⟩)
    (by kernel_rfl)
end Go.Proofs.YtefkgdbmndhebaaDoor.fnClassAll


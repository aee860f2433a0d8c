/-
  A star matches Base of every path but those of slashes alone, and Base is never empty: the law returns true for every input and leaves it as it was. Conditions: none.
  The frame round the walk is the kit's own (proof-skeleton.mjs).
-/
import Derived.Test.YtlekeaganaliiaaDoorRows
import Derived.Test.YtlekeaganaliiaaDoorLawR
import Derived.Test.YtlekeaganaliiaaDoorStrD
import Derived.Test.YtlekeaganaliiaaDoorDrawC
import Derived.Test.YtlekeaganaliiaaDoorPathC
import Derived.Test.YtlekeaganaliiaaDoorTie
import Derived.Test.YtlekeaganaliiaaDoorCards
import Derived.Test.YtlekeaganaliiaaDoorLaid
import Derived.LaidMore
import Derived.Lay
import Derived.SevenTiedAt
import Derived.Stop.Joined
namespace Go.Proofs.YtlekeaganaliiaaDoor.fnBaseStar
open Go.ChangeShapes Go.WideShapes Go.ChangeAt Go.RowKit
open Go.ChangeMaps (open_string shut_string)
set_option linter.unusedVariables false

set_option maxHeartbeats 2000000 in
theorem walk (a : Option Addr) (len cap : Nat) (zs : List Int) (w : World) (hr : IsRow .u8 w a len cap zs) (ae : Addr) (hE : Env ae w) :
    Calls Tryd.prog 5 #[.slice a len cap] w fun e w' => e = .returned (.bool true) ∧ Below w.heap.size w w' := by
  have HR := Lib.hid hr
  have HE := Lib.hid hE
  clear hr hE
  by_cases hlen : 1048576 < len
  · have hl' : (1048576 : Int) < len := by omega
    go_enter Tryd.func5, Tryd.ntmps5
    go_wp2
    go_ret
    exact ⟨rfl, Below.refl _ _⟩
  · have hl' : ¬ (1048576 : Int) < len := by omega
    go_enter Tryd.func5, Tryd.ntmps5
    go_wp2_with fail
    refine (drawBase_any a len cap zs _ HR.out (by omega)).mono ?_
    rintro e w1 ⟨p, rfl, hpl, hb⟩
    have HE1 := Lib.hid (HE.out.on hb)
    have HB1 := Lib.hid hb
    clear hb HR HE
    go_wp2_with fail
    refine (validB ae _ p w1 HE1.out rfl (by omega)).mono ?_
    rintro e w2 ⟨rfl, hb⟩
    have HE2 := Lib.hid (HE1.out.on hb)
    have HB2 := Lib.hid (HB1.out.trans (hb.mono HB1.out.size))
    clear hb HE1 HB1
    generalize Lib.validD p = A
    cases A with
    | false =>
      go_wp2
      go_ret
      exact ⟨rfl, HB2.out⟩
    | true =>
      obtain ⟨h1, h2, h3⟩ := law_baseStar p
      have hbl := base_len p
      have H1 := Lib.hid h1
      have H2 := Lib.hid h2
      have H3 := Lib.hid h3
      clear h1 h2 h3
      go_wp2_with fail
      refine (baseL p w2 (by omega)).mono ?_
      rintro e w3 ⟨rfl, rfl⟩
      have HE3 := Lib.hid HE2.out
      have HB3 := Lib.hid HB2.out
      clear HE2 HB2
      generalize Lib.Pa.base p = b at *
      go_wp2_with fail
      refine (yesB ae _ _ [42] b w2 HE3.out rfl rfl (by simp) (by omega)).mono ?_
      rintro e w4 ⟨rfl, hb⟩
      have HE4 := Lib.hid (HE3.out.on hb)
      have HB4 := Lib.hid (HB3.out.trans (hb.mono HB3.out.size))
      clear hb HE3 HB3
      rw [H1.out]
      clear H1
      by_cases hb47 : b = [47]
      · subst hb47
        have e0 : (([47] : Bs) == [47]) = true := rfl
        rw [e0] at H3 ⊢
        have hp0 : p ≠ [] := fun e => by have := H3.out; rw [e] at this; cases this
        have hp1 : p.isEmpty = false := by cases p with | nil => exact absurd rfl hp0 | cons => rfl
        have hT : Hid (Lib.trimS p [47] = []) := Lib.hid (by have := H3.out; rw [hp1] at this; simpa using this.symm)
        clear H2 H3 hp0
        go_wp2_with fail
        refine (trimB _ p w4 rfl (by omega)).mono ?_
        rintro e w5 ⟨rfl, hb⟩
        have HB5 := Lib.hid (HB4.out.trans (hb.mono HB4.out.size))
        clear hb HE4 HB4
        rw [hT.out]
        go_wp2
        go_ret
        exact ⟨rfl, HB5.out⟩
      · have e0 : (b == [47]) = false := by rw [beq_eq_false_iff_ne]; exact hb47
        rw [e0] at H3 ⊢
        have hbe : b.isEmpty = false := H2.out
        have e1 : (b == [47]) = false := by rw [beq_eq_false_iff_ne]; exact hb47
        clear hb47 H2 e0
        by_cases hp0 : p = []
        · subst hp0
          clear H3
          go_wp2
          go_ret
          exact ⟨rfl, HB4.out⟩
        · have hp1 : p.isEmpty = false := by cases p with | nil => exact absurd rfl hp0 | cons => rfl
          have hT : Hid ((Lib.trimS p [47]).isEmpty = false) := Lib.hid (by have := H3.out; rw [hp1] at this; simpa using this.symm)
          clear H3 hp0
          go_wp2_with fail
          refine (trimB _ p w4 rfl (by omega)).mono ?_
          rintro e w5 ⟨rfl, hb⟩
          have HB5 := Lib.hid (HB4.out.trans (hb.mono HB4.out.size))
          clear hb HE4 HB4
          generalize Lib.trimS p [47] = T at *
          have hT0 : T.isEmpty = false := hT.out
          clear hT
          go_wp2
          go_ret
          exact ⟨rfl, HB5.out⟩


set_option maxRecDepth 100000 in
theorem lifted (os : Os) (started : os.Started) (H : Type) (enc : TypeId × Value → H) :
    ReturnsInHanded {} Tryd.checked os 5 .any (fun w args => (Rows.fnBaseStarSpec.pre enc Tryd.prog Tryd.f5 Rows.fnBaseStarRow.domain false w args ∧ laidMetH Tryd.prog Rows.fnBaseStarRow.laid w) ∧ sizedMet enc Tryd.prog Tryd.f5 (OpenSpec.ofChange Rows.fnBaseStarSpec) false w args) (Rows.fnBaseStarSpec.post enc Tryd.prog Tryd.f5 false true false false) := by
  refine returnsInHanded_of_change_and (C := Tryd.checked) (X := fun w _ => laidMetH Tryd.prog Rows.fnBaseStarRow.laid w) (fun _ _ _ hh h => h.of_heap hh) own started (by kernel_rfl) Tryd.func5
    (ChangeSpec.witness_shaped (enc := enc) (C := Tryd.checked) (os := os) (X := fun w _ => laidMetH Tryd.prog Rows.fnBaseStarRow.laid w) false (World.laidAll Tryd.prog os Rows.fnBaseStarRow.laid) #[.slice none 0 0] 8 (World.laidAll_os _ _ _)
      (World.shaped_of_ZipB (by kernel_rfl) (by kernel_rfl)) (by kernel_rfl) (by kernel_rfl) (by kernel_rfl)
      (by rw [MakeChecks.laidMetH_plain _ _ _ (by kernel_rfl)]; exact laidMet_laidAll _ (by kernel_rfl) (by kernel_rfl))) ?_
  intro W base args ds gs before hval0 hW hcnd hsz0 hL _
  have hval : ∀ (j : Nat) t v, Tryd.f5.params[j]? = some t → args[j]? = some v → Value.okWide Tryd.prog W .any base t v := hval0
  have hW' := hW
  obtain ⟨p, q, hA0, hV, rfl, hfz, hnd⟩ := hW
  have hA : DataW.TrodAll enc Tryd.prog W 0 (fun _ => true) true Tryd.f5.params.toList args.toList ds p := hA0
  rw [Tryd.params5] at hA hval
  obtain ⟨v0, vs0, d0, ds0, p0, q0, hargs, rfl, rfl, h0, r0⟩ := trodAll_cons hA
  obtain ⟨rfl, rfl, rfl⟩ := trodAll_nil r0
  obtain rfl : args = #[v0] := by cases args; simp_all
  obtain ⟨rfl, rfl⟩ := trodVars_none hV
  obtain ⟨a0, len0, cap0, rfl⟩ := okWide_slice Tryd.underlying25 (hval 0 25 v0 rfl rfl)
  have k0 := h0
  have lt0 : ∀ x ∈ p0, x.block < W.heap.size := by obtain ⟨m, hm⟩ := k0; exact DataW.trod_lt m _ _ _ hm
  obtain ⟨z0, w0⟩ : ∃ zs, IsRow .u8 W a0 len0 cap0 zs := by
    obtain ⟨fuel, hf⟩ := h0
    rcases open_ints Tryd.underlying25 Tryd.underlying5 (by kernel_rfl) hf with ⟨hcs, _⟩ | ⟨x, l, c, zs, hcs, _, hl, hm, hz, _, hcell, hwz⟩
    · simp [Value.cells] at hcs
      obtain ⟨rfl, rfl, rfl⟩ := hcs
      exact ⟨[], .inl ⟨rfl, rfl, rfl, rfl⟩⟩
    · simp [Value.cells] at hcs
      obtain ⟨rfl, rfl, rfl⟩ := hcs
      exact ⟨zs, .inr ⟨_, rfl, hl, hm, by simpa using hz, hcell, hwz⟩⟩
  obtain ⟨ae, hE⟩ := env_of hL
  clear hA0 hval0
  refine (walk a0 len0 cap0 z0 W w0 ae hE).mono fun e W' ⟨he, bel⟩ => ?_
  subst he
  exact ⟨_, rfl, _, _, _, [], _, [], hW', trodAll_mk1 (shut_bool Tryd.underlying4 _), (trodAll_cons_mk (Below.trod laidOut (by kernel_rfl) (of_decide_eq_true (by kernel_rfl)) k0 bel lt0) trodAll_mk0), rfl, bel.frame _, fun h => by cases h⟩

theorem over : Rows.fnBaseStarRow.holds Tryd.pinned (OpenSpec.ofChange Rows.fnBaseStarSpec) :=
  OpenClaim.holds_of_wide 5 Tryd.f5 rfl rfl rfl rfl rfl rfl rfl ⟨rfl, rfl, rfl, rfl, rfl⟩ rfl rfl rfl rfl rfl (by kernel_rfl) Tryd.func5 (by kernel_rfl)
    (of_decide_eq_true (by kernel_rfl)) (by unfold Func.isWrapper; first | (rw [if_pos (by decide +kernel)]; kernel_rfl) | (rw [if_neg (by decide +kernel)]; exact ⟨rfl, rfl⟩))
    (fun os started H enc _ => lifted os started H enc)

theorem proved : Rows.FnBaseStarCardSaid :=
  Claim7.holds_tied_plain_at .later [] Rows.fnBaseStarCard.laidKinds true Rows.fnBaseStarCard.stood.harness true over (fun _ h => by cases h) (by kernel_rfl) (fun _ h => by cases h) fnBaseStar_row_tie rfl ⟨rfl, rfl⟩ (by kernel_rfl) rfl
    (fun f fn hf hfn => by
      obtain rfl : f = 5 := Option.some.inj ((show Tryd.prog.funcNamed Rows.fnBaseStarRow.func = some 5 by kernel_rfl).symm.trans hf) |>.symm
      obtain rfl : fn = Tryd.f5 := (Option.some.inj (Tryd.func5.symm.trans hfn)).symm
      exact ⟨by kernel_rfl, fun j t ht => by
        rw [Tryd.params5] at ht
        have hm : t ∈ [25] := by simpa using Array.mem_of_getElem? ht
        have hall : ([25].all fun u => !Tryd.prog.wantsStandIn u) = true := by kernel_rfl
        exact (show Tryd.prog.wantsStandIn t = false by simpa using List.all_eq_true.1 hall t hm)⟩)
    (by kernel_rfl)
end Go.Proofs.YtlekeaganaliiaaDoor.fnBaseStar


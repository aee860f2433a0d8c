/-
  Of decided pairs, a text with backslashes behind a pattern matches as the pattern does before the text: the law returns true for every input and leaves it as it was. Conditions: none.
  The frame round the walk is the kit's own (proof-skeleton.mjs).
-/
import Derived.Test.YtefkgdbmndhebaaDoorRows
import Derived.Test.YtefkgdbmndhebaaDoorDecC
import Derived.Test.YtefkgdbmndhebaaDoorQuoteC
import Derived.Test.YtefkgdbmndhebaaDoorDrawN
import Derived.Test.YtefkgdbmndhebaaDoorImplB
import Derived.Test.YtefkgdbmndhebaaDoorTie
import Derived.Test.YtefkgdbmndhebaaDoorCards
import Derived.Test.YtefkgdbmndhebaaDoorLaid
import Derived.LaidMore
import Derived.Lay
import Derived.SevenTiedAt
import Derived.Stop.Joined
namespace Go.Proofs.YtefkgdbmndhebaaDoor.fnQuoteTail
open Go.ChangeShapes Go.WideShapes Go.ChangeAt Go.RowKit
open Go.ChangeMaps (open_string shut_string)
set_option linter.unusedVariables false

set_option maxHeartbeats 2000000 in
theorem walk (a : Option Addr) (len cap : Nat) (zs : List Int) (w : World) (hr : IsRow .u8 w a len cap zs) (ae : Addr) (hE : Env ae w) :
    Calls Tryd.prog 14 #[.slice a len cap] w fun e w' => e = .returned (.bool true) ∧ Below w.heap.size w w' := by
  have HR := Lib.hid hr
  have HE := Lib.hid hE
  clear hr hE
  by_cases hlen : 1048576 < len
  · have hl' : (1048576 : Int) < len := by omega
    go_enter Tryd.func14, Tryd.ntmps14
    go_wp2
    go_ret
    exact ⟨rfl, Below.refl _ _⟩
  · have hl' : ¬ (1048576 : Int) < len := by omega
    go_enter Tryd.func14, Tryd.ntmps14
    go_wp2_with fail
    refine (drawConcat_any a len cap zs _ HR.out (by omega)).mono ?_
    rintro e w1 ⟨p, q, n, rfl, hpl, hql, hnl, hb⟩
    have HE1 := Lib.hid (HE.out.on hb)
    have HB1 := Lib.hid hb
    clear hb HR HE
    go_wp2_with fail
    refine (yesStar ae w1 HE1.out).mono ?_
    rintro e w2 ⟨rfl, hb⟩
    have HE2 := Lib.hid (HE1.out.on hb)
    have HB2 := Lib.hid (HB1.out.trans (hb.mono HB1.out.size))
    clear hb HE1 HB1
    go_wp2_with fail
    refine (validB ae _ q w2 HE2.out rfl (by omega)).mono ?_
    rintro e w3 ⟨rfl, hb⟩
    have HE3 := Lib.hid (HE2.out.on hb)
    have HB3 := Lib.hid (HB2.out.trans (hb.mono HB2.out.size))
    clear hb HE2 HB2
    generalize hA : Lib.validD q = A
    have HA := Lib.hid hA
    clear hA
    cases A with
    | false =>
      go_wp2
      go_ret
      exact ⟨rfl, HB3.out⟩
    | true =>
      go_wp2_with fail
      refine (wellFormedB ae _ p w3 HE3.out rfl (by omega)).mono ?_
      rintro e w4 ⟨rfl, hb⟩
      have HE4 := Lib.hid (HE3.out.on hb)
      have HB4 := Lib.hid (HB3.out.trans (hb.mono HB3.out.size))
      clear hb HE3 HB3
      generalize hB : wfB p = B
      have HB := Lib.hid hB
      clear hB
      cases B with
      | false =>
        go_wp2
        go_ret
        exact ⟨rfl, HB4.out⟩
      | true =>
        have hq2 := quoteB_len q
        obtain ⟨Q, hQ⟩ : ∃ Q, Q = quoteB q := ⟨_, rfl⟩
        have hl := fun hd => law_quoteTail (p := p) (a := q) (n := n) HA.out HB.out hd
        rw [← hQ] at hl hq2
        have HL := Lib.hid hl
        have HQE := Lib.hid hQ.symm
        clear hl hQ
        go_wp2_with fail
        refine (quoteCB _ q w4 rfl (by omega)).mono ?_
        rintro e w5 ⟨rfl, hb⟩
        have HE5 := Lib.hid (HE4.out.on hb)
        have HB5 := Lib.hid (HB4.out.trans (hb.mono HB4.out.size))
        clear hb HE4 HB4
        rw [HQE.out]
        go_wp2_with fail
        refine (decidedCB ae _ _ (p ++ Q) (n ++ q) w5 HE5.out (by simp) (by simp) (by simp; omega) (by simp; omega)).mono ?_
        rintro e w6 ⟨rfl, hb⟩
        have HE6 := Lib.hid (HE5.out.on hb)
        have HB6 := Lib.hid (HB5.out.trans (hb.mono HB5.out.size))
        clear hb HE5 HB5
        generalize hD : decdB (p ++ Q) (n ++ q) = D
        have HD := Lib.hid hD
        clear hD
        cases D with
        | false =>
          go_wp2
          go_ret
          exact ⟨rfl, HB6.out⟩
        | true =>
          have HL2 := Lib.hid (HL.out HD.out)
          clear HL HD HA HB
          obtain ⟨M, hM⟩ : ∃ M, M = mm p n := ⟨_, rfl⟩
          have HM := Lib.hid hM.symm
          clear hM
          go_wp2_with fail
          refine (quoteCB _ q w6 rfl (by omega)).mono ?_
          rintro e w7 ⟨rfl, hb⟩
          have HE7 := Lib.hid (HE6.out.on hb)
          have HB7 := Lib.hid (HB6.out.trans (hb.mono HB6.out.size))
          clear hb HE6 HB6
          rw [HQE.out]
          go_wp2_with fail
          refine (yesB ae _ _ (p ++ Q) (n ++ q) w7 HE7.out (by simp) (by simp) (by simp; omega) (by simp; omega)).mono ?_
          rintro e w8 ⟨rfl, hb⟩
          have HE8 := Lib.hid (HE7.out.on hb)
          have HB8 := Lib.hid (HB7.out.trans (hb.mono HB7.out.size))
          clear hb HE7 HB7
          rw [HL2.out.1, HM.out]
          go_wp2_with fail
          refine (yesB ae _ _ p n w8 HE8.out rfl rfl (by omega) (by omega)).mono ?_
          rintro e w9 ⟨rfl, hb⟩
          have HE9 := Lib.hid (HE8.out.on hb)
          have HB9 := Lib.hid (HB8.out.trans (hb.mono HB8.out.size))
          clear hb HE8 HB8
          rw [HM.out]
          cases M with
          | false =>
            go_wp2_with fail
            refine (hasSuffixB _ _ n q w9 rfl rfl (by omega)).mono ?_
            rintro e w10 ⟨rfl, hb⟩
            have HE10 := Lib.hid (HE9.out.on hb)
            have HB10 := Lib.hid (HB9.out.trans (hb.mono HB9.out.size))
            clear hb HE9 HB9
            generalize hS : q.isSuffixOf n = S
            have HS := Lib.hid hS
            clear hS
            cases S with
            | false =>
              have HN := Lib.hid (HL2.out.2 HS.out)
              clear HL2 HS
              go_wp2_with fail
              refine (quoteCB _ q w10 rfl (by omega)).mono ?_
              rintro e w11 ⟨rfl, hb⟩
              have HE11 := Lib.hid (HE10.out.on hb)
              have HB11 := Lib.hid (HB10.out.trans (hb.mono HB10.out.size))
              clear hb HE10 HB10
              rw [HQE.out]
              go_wp2_with fail
              refine (yesB ae _ _ (p ++ Q) n w11 HE11.out (by simp) rfl (by simp; omega) (by omega)).mono ?_
              rintro e w12 ⟨rfl, hb⟩
              have HE12 := Lib.hid (HE11.out.on hb)
              have HB12 := Lib.hid (HB11.out.trans (hb.mono HB11.out.size))
              clear hb HE11 HB11
              rw [HN.out]
              go_wp2
              go_ret
              exact ⟨rfl, HB12.out⟩
            | true =>
              go_wp2
              go_ret
              exact ⟨rfl, HB10.out⟩
          | true =>
            go_wp2_with fail
            refine (hasSuffixB _ _ n q w9 rfl rfl (by omega)).mono ?_
            rintro e w10 ⟨rfl, hb⟩
            have HE10 := Lib.hid (HE9.out.on hb)
            have HB10 := Lib.hid (HB9.out.trans (hb.mono HB9.out.size))
            clear hb HE9 HB9
            generalize hS : q.isSuffixOf n = S
            have HS := Lib.hid hS
            clear hS
            cases S with
            | false =>
              have HN := Lib.hid (HL2.out.2 HS.out)
              clear HL2 HS
              go_wp2_with fail
              refine (quoteCB _ q w10 rfl (by omega)).mono ?_
              rintro e w11 ⟨rfl, hb⟩
              have HE11 := Lib.hid (HE10.out.on hb)
              have HB11 := Lib.hid (HB10.out.trans (hb.mono HB10.out.size))
              clear hb HE10 HB10
              rw [HQE.out]
              go_wp2_with fail
              refine (yesB ae _ _ (p ++ Q) n w11 HE11.out (by simp) rfl (by simp; omega) (by omega)).mono ?_
              rintro e w12 ⟨rfl, hb⟩
              have HE12 := Lib.hid (HE11.out.on hb)
              have HB12 := Lib.hid (HB11.out.trans (hb.mono HB11.out.size))
              clear hb HE11 HB11
              rw [HN.out]
              go_wp2
              go_ret
              exact ⟨rfl, HB12.out⟩
            | true =>
              go_wp2
              go_ret
              exact ⟨rfl, HB10.out⟩


set_option maxRecDepth 100000 in
theorem lifted (os : Os) (started : os.Started) (H : Type) (enc : TypeId × Value → H) :
    ReturnsInHanded {} Tryd.checked os 14 .any (fun w args => (Rows.fnQuoteTailSpec.pre enc Tryd.prog Tryd.f14 Rows.fnQuoteTailRow.domain false w args ∧ laidMetH Tryd.prog Rows.fnQuoteTailRow.laid w) ∧ sizedMet enc Tryd.prog Tryd.f14 (OpenSpec.ofChange Rows.fnQuoteTailSpec) false w args) (Rows.fnQuoteTailSpec.post enc Tryd.prog Tryd.f14 false true false false) := by
  refine returnsInHanded_of_change_and (C := Tryd.checked) (X := fun w _ => laidMetH Tryd.prog Rows.fnQuoteTailRow.laid w) (fun _ _ _ hh h => h.of_heap hh) own started (by kernel_rfl) Tryd.func14
    (ChangeSpec.witness_shaped (enc := enc) (C := Tryd.checked) (os := os) (X := fun w _ => laidMetH Tryd.prog Rows.fnQuoteTailRow.laid w) false (World.laidAll Tryd.prog os Rows.fnQuoteTailRow.laid) #[.slice none 0 0] 8 (World.laidAll_os _ _ _)
      (World.shaped_of_ZipB (by kernel_rfl) (by kernel_rfl)) (by kernel_rfl) (by kernel_rfl) (by kernel_rfl)
      (by rw [MakeChecks.laidMetH_plain _ _ _ (by kernel_rfl)]; exact laidMet_laidAll _ (by kernel_rfl) (by kernel_rfl))) ?_
  intro W base args ds gs before hval0 hW hcnd hsz0 hL _
  have hval : ∀ (j : Nat) t v, Tryd.f14.params[j]? = some t → args[j]? = some v → Value.okWide Tryd.prog W .any base t v := hval0
  have hW' := hW
  obtain ⟨p, q, hA0, hV, rfl, hfz, hnd⟩ := hW
  have hA : DataW.TrodAll enc Tryd.prog W 0 (fun _ => true) true Tryd.f14.params.toList args.toList ds p := hA0
  rw [Tryd.params14] at hA hval
  obtain ⟨v0, vs0, d0, ds0, p0, q0, hargs, rfl, rfl, h0, r0⟩ := trodAll_cons hA
  obtain ⟨rfl, rfl, rfl⟩ := trodAll_nil r0
  obtain rfl : args = #[v0] := by cases args; simp_all
  obtain ⟨rfl, rfl⟩ := trodVars_none hV
  obtain ⟨a0, len0, cap0, rfl⟩ := okWide_slice Tryd.underlying22 (hval 0 22 v0 rfl rfl)
  have k0 := h0
  have lt0 : ∀ x ∈ p0, x.block < W.heap.size := by obtain ⟨m, hm⟩ := k0; exact DataW.trod_lt m _ _ _ hm
  obtain ⟨z0, w0⟩ : ∃ zs, IsRow .u8 W a0 len0 cap0 zs := by
    obtain ⟨fuel, hf⟩ := h0
    rcases open_ints Tryd.underlying22 Tryd.underlying5 (by kernel_rfl) hf with ⟨hcs, _⟩ | ⟨x, l, c, zs, hcs, _, hl, hm, hz, _, hcell, hwz⟩
    · simp [Value.cells] at hcs
      obtain ⟨rfl, rfl, rfl⟩ := hcs
      exact ⟨[], .inl ⟨rfl, rfl, rfl, rfl⟩⟩
    · simp [Value.cells] at hcs
      obtain ⟨rfl, rfl, rfl⟩ := hcs
      exact ⟨zs, .inr ⟨_, rfl, hl, hm, by simpa using hz, hcell, hwz⟩⟩
  obtain ⟨ae, hE⟩ := env_of hL
  clear hA0 hval0
  refine (walk a0 len0 cap0 z0 W w0 ae hE).mono fun e W' ⟨he, bel⟩ => ?_
  subst he
  exact ⟨_, rfl, _, _, _, [], _, [], hW', trodAll_mk1 (shut_bool Tryd.underlying4 _), (trodAll_cons_mk (Below.trod laidOut (by kernel_rfl) (of_decide_eq_true (by kernel_rfl)) k0 bel lt0) trodAll_mk0), rfl, bel.frame _, fun h => by cases h⟩

theorem over : Rows.fnQuoteTailRow.holds Tryd.pinned (OpenSpec.ofChange Rows.fnQuoteTailSpec) :=
  OpenClaim.holds_of_wide 14 Tryd.f14 rfl rfl rfl rfl rfl rfl rfl ⟨rfl, rfl, rfl, rfl, rfl⟩ rfl rfl rfl rfl rfl (by kernel_rfl) Tryd.func14 (by kernel_rfl)
    (of_decide_eq_true (by kernel_rfl)) (by unfold Func.isWrapper; first | (rw [if_pos (by decide +kernel)]; kernel_rfl) | (rw [if_neg (by decide +kernel)]; exact ⟨rfl, rfl⟩))
    (fun os started H enc _ => lifted os started H enc)

theorem proved : Rows.FnQuoteTailCardSaid :=
  Claim7.holds_tied_plain_at .later [] Rows.fnQuoteTailCard.laidKinds true Rows.fnQuoteTailCard.stood.harness true over (fun _ h => by cases h) (by kernel_rfl) (fun _ h => by cases h) fnQuoteTail_row_tie rfl ⟨rfl, rfl⟩ (by kernel_rfl) rfl
    (fun f fn hf hfn => by
      obtain rfl : f = 14 := Option.some.inj ((show Tryd.prog.funcNamed Rows.fnQuoteTailRow.func = some 14 by kernel_rfl).symm.trans hf) |>.symm
      obtain rfl : fn = Tryd.f14 := (Option.some.inj (Tryd.func14.symm.trans hfn)).symm
      exact ⟨by kernel_rfl, fun j t ht => by
        rw [Tryd.params14] at ht
        have hm : t ∈ [22] := by simpa using Array.mem_of_getElem? ht
        have hall : ([22].all fun u => !Tryd.prog.wantsStandIn u) = true := by kernel_rfl
        exact (show Tryd.prog.wantsStandIn t = false by simpa using List.all_eq_true.1 hall t hm)⟩)
    (by kernel_rfl)
end Go.Proofs.YtefkgdbmndhebaaDoor.fnQuoteTail


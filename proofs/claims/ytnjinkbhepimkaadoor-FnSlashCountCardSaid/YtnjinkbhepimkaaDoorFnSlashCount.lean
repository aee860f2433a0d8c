/-
  A pattern without a class that admits a slash matches only names with as many slashes as it has: the law returns true for every input and leaves it as it was. Conditions: none.
  The frame round the walk is the kit's own (proof-skeleton.mjs).
-/
import Derived.Test.YtnjinkbhepimkaaDoorRows
import Derived.Test.YtnjinkbhepimkaaDoorDrawG
import Derived.Test.YtnjinkbhepimkaaDoorTie
import Derived.Test.YtnjinkbhepimkaaDoorCards
import Derived.Test.YtnjinkbhepimkaaDoorLaid
import Derived.LaidMore
import Derived.Lay
import Derived.SevenTiedAt
import Derived.Stop.Joined
namespace Go.Proofs.YtnjinkbhepimkaaDoor.fnSlashCount
open Go.ChangeShapes Go.WideShapes Go.ChangeAt Go.RowKit
open Go.ChangeMaps (open_string shut_string)
set_option linter.unusedVariables false

set_option maxHeartbeats 2000000 in
theorem walk (a : Option Addr) (len cap : Nat) (zs : List Int) (w : World) (hr : IsRow .u8 w a len cap zs) (ae : Addr) (hE : Env ae w) :
    Calls Tryd.prog 14 #[.slice a len cap] w fun e w' => e = .returned (.bool true) ∧ Below w.heap.size w w' := by
  have HR := Lib.hid hr
  have HE := Lib.hid hE
  clear hr hE
  by_cases hlen : 1048576 < len
  · have hl' : (1048576 : Int) < len := by omega
    go_enter Tryd.func14, Tryd.ntmps14
    go_wp2
    go_ret
    exact ⟨rfl, Below.refl _ _⟩
  · have hl' : ¬ (1048576 : Int) < len := by omega
    go_enter Tryd.func14, Tryd.ntmps14
    go_wp2_with fail
    refine (drawMatch_any a len cap zs _ HR.out (by omega)).mono ?_
    rintro e w1 ⟨p, n, rfl, hpl, hnl, hb⟩
    have HE1 := Lib.hid (HE.out.on hb)
    have HB1 := Lib.hid hb
    clear hb HR HE
    go_wp2_with fail
    refine (yesStar ae w1 HE1.out).mono ?_
    rintro e w2 ⟨rfl, hb⟩
    have HE2 := Lib.hid (HE1.out.on hb)
    have HB2 := Lib.hid (HB1.out.trans (hb.mono HB1.out.size))
    clear hb HE1 HB1
    go_wp2_with fail
    refine (wellFormedB ae _ p w2 HE2.out rfl (by omega)).mono ?_
    rintro e w3 ⟨rfl, hb⟩
    have HE3 := Lib.hid (HE2.out.on hb)
    have HB3 := Lib.hid (HB2.out.trans (hb.mono HB2.out.size))
    clear hb HE2 HB2
    generalize hA : wfB p = A
    have HA := Lib.hid hA
    clear hA
    cases A with
    | false =>
      go_wp2
      go_ret
      exact ⟨rfl, HB3.out⟩
    | true =>
      go_wp2_with fail
      refine (validB ae _ n w3 HE3.out rfl (by omega)).mono ?_
      rintro e w4 ⟨rfl, hb⟩
      have HE4 := Lib.hid (HE3.out.on hb)
      have HB4 := Lib.hid (HB3.out.trans (hb.mono HB3.out.size))
      clear hb HE3 HB3
      generalize hV : Lib.validD n = V
      have HV := Lib.hid hV
      clear hV
      cases V with
      | false =>
        go_wp2
        go_ret
        exact ⟨rfl, HB4.out⟩
      | true =>
        clear HV
        obtain ⟨ts, hrd, hpa, hgood, _, _⟩ := wf_terms HA.out
        have hwt := read_weight' p ts hrd
        have hwl := weight_len ts
        have HG : Hid (∀ t ∈ ts, okNum t) := Lib.hid (fun t ht => good_ok (hgood t ht))
        have HRD := Lib.hid hrd
        have HQ := Lib.hid (fun hz hm => law_slashCount (n := n) ⟨HA.out, hrd⟩ hz hm)
        have hsn := slashN_le ts
        clear HA
        clear hrd hpa hgood
        have hfd := fld0
        go_wp2_with fail
        refine (readB _ p w4 rfl (by omega)).mono ?_
        rintro e w5 ⟨hb, va, vn, vc, rfl, hts⟩
        obtain ⟨rfl, htm⟩ := hts ts HRD.out
        have HT := Lib.hid htm
        have HE5 := Lib.hid (HE4.out.on hb)
        have HB5 := Lib.hid (HB4.out.trans (hb.mono HB4.out.size))
        generalize rdOk p = OK
        generalize rdSet p = ST
        clear hb HE4 HB4 hts htm
        go_wp2_with fail
        refine (slashClass_call _ _ ts w5 HT.out (by omega) (by omega) HG.out).mono ?_
        rintro e w6 ⟨rfl, hb⟩
        have HE6 := Lib.hid (HE5.out.on hb)
        have HB6 := Lib.hid (HB5.out.trans (hb.mono HB5.out.size))
        clear hb HE5 HB5
        generalize hZ : slashClass ts = Z
        have HZ := Lib.hid hZ
        clear hZ
        clear HT
        cases Z with
        | false =>
          go_wp2_with fail
          refine (yesB ae _ _ p n w6 HE6.out rfl rfl (by omega) (by omega)).mono ?_
          rintro e w7 ⟨rfl, hb⟩
          have HE7 := Lib.hid (HE6.out.on hb)
          have HB7 := Lib.hid (HB6.out.trans (hb.mono HB6.out.size))
          clear hb HE6 HB6
          generalize hM : mm p n = M
          have HM := Lib.hid hM
          clear hM
          cases M with
          | false =>
            go_wp2
            go_ret
            exact ⟨rfl, HB7.out⟩
          | true =>
            go_wp2_with fail
            refine (countB n w7).mono ?_
            rintro e w8 ⟨rfl, hb⟩
            have HE8 := Lib.hid (HE7.out.on hb)
            have HB8 := Lib.hid (HB7.out.trans (hb.mono HB7.out.size))
            clear hb HE7 HB7
            rw [HQ.out HZ.out HM.out]
            clear HQ HZ HM
            have hfd := fld0
            go_wp2_with fail
            refine (readB _ p w8 rfl (by omega)).mono ?_
            rintro e w9 ⟨hb, va, vn, vc, rfl, hts⟩
            obtain ⟨rfl, htm⟩ := hts ts HRD.out
            have HT := Lib.hid htm
            have HE9 := Lib.hid (HE8.out.on hb)
            have HB9 := Lib.hid (HB8.out.trans (hb.mono HB8.out.size))
            generalize rdOk p = OK
            generalize rdSet p = ST
            clear hb HE8 HB8 hts htm
            go_wp2_with fail
            refine (slashTerms_call _ _ ts w9 HT.out (by omega) HG.out).mono ?_
            rintro e w10 ⟨rfl, hb⟩
            have HE10 := Lib.hid (HE9.out.on hb)
            have HB10 := Lib.hid (HB9.out.trans (hb.mono HB9.out.size))
            clear hb HE9 HB9
            clear HT HG
            generalize slashN ts = K
            go_wp2
            go_ret
            exact ⟨rfl, HB10.out⟩
        | true =>
          go_wp2
          go_ret
          exact ⟨rfl, HB6.out⟩


set_option maxRecDepth 100000 in
theorem lifted (os : Os) (started : os.Started) (H : Type) (enc : TypeId × Value → H) :
    ReturnsInHanded {} Tryd.checked os 14 .any (fun w args => (Rows.fnSlashCountSpec.pre enc Tryd.prog Tryd.f14 Rows.fnSlashCountRow.domain false w args ∧ laidMetH Tryd.prog Rows.fnSlashCountRow.laid w) ∧ sizedMet enc Tryd.prog Tryd.f14 (OpenSpec.ofChange Rows.fnSlashCountSpec) false w args) (Rows.fnSlashCountSpec.post enc Tryd.prog Tryd.f14 false true false false) := by
  refine returnsInHanded_of_change_and (C := Tryd.checked) (X := fun w _ => laidMetH Tryd.prog Rows.fnSlashCountRow.laid w) (fun _ _ _ hh h => h.of_heap hh) own started (by kernel_rfl) Tryd.func14
    (ChangeSpec.witness_shaped (enc := enc) (C := Tryd.checked) (os := os) (X := fun w _ => laidMetH Tryd.prog Rows.fnSlashCountRow.laid w) false (World.laidAll Tryd.prog os Rows.fnSlashCountRow.laid) #[.slice none 0 0] 8 (World.laidAll_os _ _ _)
      (World.shaped_of_ZipB (by kernel_rfl) (by kernel_rfl)) (by kernel_rfl) (by kernel_rfl) (by kernel_rfl)
      (by rw [MakeChecks.laidMetH_plain _ _ _ (by kernel_rfl)]; exact laidMet_laidAll _ (by kernel_rfl) (by kernel_rfl))) ?_
  intro W base args ds gs before hval0 hW hcnd hsz0 hL _
  have hval : ∀ (j : Nat) t v, Tryd.f14.params[j]? = some t → args[j]? = some v → Value.okWide Tryd.prog W .any base t v := hval0
  have hW' := hW
  obtain ⟨p, q, hA0, hV, rfl, hfz, hnd⟩ := hW
  have hA : DataW.TrodAll enc Tryd.prog W 0 (fun _ => true) true Tryd.f14.params.toList args.toList ds p := hA0
  rw [Tryd.params14] at hA hval
  obtain ⟨v0, vs0, d0, ds0, p0, q0, hargs, rfl, rfl, h0, r0⟩ := trodAll_cons hA
  obtain ⟨rfl, rfl, rfl⟩ := trodAll_nil r0
  obtain rfl : args = #[v0] := by cases args; simp_all
  obtain ⟨rfl, rfl⟩ := trodVars_none hV
  obtain ⟨a0, len0, cap0, rfl⟩ := okWide_slice Tryd.underlying22 (hval 0 22 v0 rfl rfl)
  have k0 := h0
  have lt0 : ∀ x ∈ p0, x.block < W.heap.size := by obtain ⟨m, hm⟩ := k0; exact DataW.trod_lt m _ _ _ hm
  obtain ⟨z0, w0⟩ : ∃ zs, IsRow .u8 W a0 len0 cap0 zs := by
    obtain ⟨fuel, hf⟩ := h0
    rcases open_ints Tryd.underlying22 Tryd.underlying5 (by kernel_rfl) hf with ⟨hcs, _⟩ | ⟨x, l, c, zs, hcs, _, hl, hm, hz, _, hcell, hwz⟩
    · simp [Value.cells] at hcs
      obtain ⟨rfl, rfl, rfl⟩ := hcs
      exact ⟨[], .inl ⟨rfl, rfl, rfl, rfl⟩⟩
    · simp [Value.cells] at hcs
      obtain ⟨rfl, rfl, rfl⟩ := hcs
      exact ⟨zs, .inr ⟨_, rfl, hl, hm, by simpa using hz, hcell, hwz⟩⟩
  obtain ⟨ae, hE⟩ := env_of hL
  clear hA0 hval0
  refine (walk a0 len0 cap0 z0 W w0 ae hE).mono fun e W' ⟨he, bel⟩ => ?_
  subst he
  exact ⟨_, rfl, _, _, _, [], _, [], hW', trodAll_mk1 (shut_bool Tryd.underlying4 _), (trodAll_cons_mk (Below.trod laidOut (by kernel_rfl) (of_decide_eq_true (by kernel_rfl)) k0 bel lt0) trodAll_mk0), rfl, bel.frame _, fun h => by cases h⟩

theorem over : Rows.fnSlashCountRow.holds Tryd.pinned (OpenSpec.ofChange Rows.fnSlashCountSpec) :=
  OpenClaim.holds_of_wide 14 Tryd.f14 rfl rfl rfl rfl rfl rfl rfl ⟨rfl, rfl, rfl, rfl, rfl⟩ rfl rfl rfl rfl rfl (by kernel_rfl) Tryd.func14 (by kernel_rfl)
    (of_decide_eq_true (by kernel_rfl)) (by unfold Func.isWrapper; first | (rw [if_pos (by decide +kernel)]; kernel_rfl) | (rw [if_neg (by decide +kernel)]; exact ⟨rfl, rfl⟩))
    (fun os started H enc _ => lifted os started H enc)

theorem proved : Rows.FnSlashCountCardSaid :=
  Claim7.holds_tied_plain_at .later [] Rows.fnSlashCountCard.laidKinds true Rows.fnSlashCountCard.stood.harness true over (fun _ h => by cases h) (by kernel_rfl) (fun _ h => by cases h) fnSlashCount_row_tie rfl ⟨rfl, rfl⟩ (by kernel_rfl) rfl
    (fun f fn hf hfn => by
      obtain rfl : f = 14 := Option.some.inj ((show Tryd.prog.funcNamed Rows.fnSlashCountRow.func = some 14 by kernel_rfl).symm.trans hf) |>.symm
      obtain rfl : fn = Tryd.f14 := (Option.some.inj (Tryd.func14.symm.trans hfn)).symm
      exact ⟨by kernel_rfl, fun j t ht => by
        rw [Tryd.params14] at ht
        have hm : t ∈ [22] := by simpa using Array.mem_of_getElem? ht
        have hall : ([22].all fun u => !Tryd.prog.wantsStandIn u) = true := by kernel_rfl
        exact (show Tryd.prog.wantsStandIn t = false by simpa using List.all_eq_true.1 hall t hm)⟩)
    (by kernel_rfl)
end Go.Proofs.YtnjinkbhepimkaaDoor.fnSlashCount


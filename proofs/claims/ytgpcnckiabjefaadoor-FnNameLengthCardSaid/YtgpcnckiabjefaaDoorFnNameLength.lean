/-
  Of sound pairs, a name that matches has at least as many characters as the pattern has terms other than stars, and as many if it has no star: the law returns true for every input and leaves it as it was. Conditions: none.
  The frame round the walk is the kit's own (proof-skeleton.mjs).
-/
import Derived.Test.YtgpcnckiabjefaaDoorRows
import Derived.Test.YtgpcnckiabjefaaDoorDrawN
import Derived.Test.YtgpcnckiabjefaaDoorLawU
import Derived.Test.YtgpcnckiabjefaaDoorCuts
import Derived.Test.YtgpcnckiabjefaaDoorTie
import Derived.Test.YtgpcnckiabjefaaDoorCards
import Derived.Test.YtgpcnckiabjefaaDoorLaid
import Derived.LaidMore
import Derived.Lay
import Derived.SevenTiedAt
import Derived.Stop.Joined
namespace Go.Proofs.YtgpcnckiabjefaaDoor.fnNameLength
open Go.ChangeShapes Go.WideShapes Go.ChangeAt Go.RowKit
open Go.ChangeMaps (open_string shut_string)
set_option linter.unusedVariables false

set_option maxHeartbeats 2000000 in
theorem walk (a : Option Addr) (len cap : Nat) (zs : List Int) (w : World) (hr : IsRow .u8 w a len cap zs) (ae : Addr) (hE : Env ae w) :
    Calls Tryd.prog 9 #[.slice a len cap] w fun e w' => e = .returned (.bool true) ∧ Below w.heap.size w w' := by
  have HR := Lib.hid hr
  have HE := Lib.hid hE
  clear hr hE
  by_cases hlen : 1048576 < len
  · have hl' : (1048576 : Int) < len := by omega
    go_enter Tryd.func9, Tryd.ntmps9
    go_wp2
    go_ret
    exact ⟨rfl, Below.refl _ _⟩
  · have hl' : ¬ (1048576 : Int) < len := by omega
    go_enter Tryd.func9, Tryd.ntmps9
    go_wp2_with fail
    refine (drawMatch_any a len cap zs _ HR.out (by omega)).mono ?_
    rintro e w1 ⟨p, n, rfl, hpl, hnl, hb⟩
    have HE1 := Lib.hid (HE.out.on hb)
    have HB1 := Lib.hid hb
    clear hb HR HE
    go_wp2_with fail
    refine (yesStar ae w1 HE1.out).mono ?_
    rintro e w2 ⟨rfl, hb⟩
    have HE2 := Lib.hid (HE1.out.on hb)
    have HB2 := Lib.hid (HB1.out.trans (hb.mono HB1.out.size))
    clear hb HE1 HB1
    go_wp2_with fail
    refine (soundCB ae _ _ p n w2 HE2.out rfl rfl (by omega) (by omega)).mono ?_
    rintro e w3 ⟨rfl, hb⟩
    have HE3 := Lib.hid (HE2.out.on hb)
    have HB3 := Lib.hid (HB2.out.trans (hb.mono HB2.out.size))
    clear hb HE2 HB2
    generalize hA : soundB p n = A
    have HA := Lib.hid hA
    clear hA
    cases A with
    | false =>
      go_wp2
      go_ret
      exact ⟨rfl, HB3.out⟩
    | true =>
      go_wp2_with fail
      refine (yesB ae _ _ p n w3 HE3.out rfl rfl (by omega) (by omega)).mono ?_
      rintro e w4 ⟨rfl, hb⟩
      have HE4 := Lib.hid (HE3.out.on hb)
      have HB4 := Lib.hid (HB3.out.trans (hb.mono HB3.out.size))
      clear hb HE3 HB3
      generalize hC : mm p n = C
      have HC := Lib.hid hC
      clear hC
      cases C with
      | false =>
        go_wp2
        go_ret
        exact ⟨rfl, HB4.out⟩
      | true =>
        have hwf : wfB p = true := by
          have h := HA.out
          unfold soundB at h
          rw [Bool.and_eq_true] at h
          exact h.1
        obtain ⟨ts, hrd, hpa, hgood, _, _⟩ := wf_terms hwf
        have hwt := read_weight' p ts hrd
        have hwl := weight_len ts
        have HG : Hid (∀ t ∈ ts, okNum t) := Lib.hid (fun t ht => good_ok (hgood t ht))
        have HRD := Lib.hid hrd
        have hlaw := law_nameLength HA.out HC.out ts hrd
        have hl1 := hlaw.1
        have HL2 := Lib.hid hlaw.2
        have hsl := starN_le ts
        have hrl := runes_len _ n (Nat.le_refl _)
        have HG2 : Hid (∀ t ∈ ts, t.kind ≤ 100) := Lib.hid (fun t ht => (HG.out t ht).1)
        clear hlaw HA HC hwf HG
        clear hrd hpa hgood
        have hfd := fld0
        go_wp2_with fail
        refine (readB _ p w4 rfl (by omega)).mono ?_
        rintro e w5 ⟨hb, va, vn, vc, rfl, hts⟩
        obtain ⟨rfl, htm⟩ := hts ts HRD.out
        have HT := Lib.hid htm
        have HE5 := Lib.hid (HE4.out.on hb)
        have HB5 := Lib.hid (HB4.out.trans (hb.mono HB4.out.size))
        generalize rdOk p = OK
        generalize rdSet p = ST
        clear hb HE4 HB4 hts htm
        clear HRD
        go_wp2_with fail
        refine (stars_call _ _ ts w5 HT.out (by omega) HG2.out).mono ?_
        rintro e w6 ⟨rfl, hb⟩
        have HK := Lib.hid (HT.out.below hb)
        clear HT
        have HT := HK
        clear HK
        have HE6 := Lib.hid (HE5.out.on hb)
        have HB6 := Lib.hid (HB5.out.trans (hb.mono HB5.out.size))
        clear hb HE5 HB5
        have hcn := cutsL_len n
        go_wp2_with fail
        refine (cuts_call ae n w6 HE6.out (by omega)).mono ?_
        rintro e w7 ⟨v, rfl, ⟨gg, cc, rfl, hcc, hcm, hgg, hcells⟩, hb⟩
        have HK := Lib.hid (HT.out.below hb)
        clear HT hcells
        have HE7 := Lib.hid (HE6.out.on hb)
        have HB7 := Lib.hid (HB6.out.trans (hb.mono HB6.out.size))
        clear hb HE6 HB6
        unfold maxLen at hcm
        rw [hcn] at hcc
        have HCN := Lib.hid hcn
        clear hcn
        rw [HCN.out]
        clear HCN
        generalize (runes n).length = R at *
        have hcall := Lib.hid (stars_call _ _ ts w7 HK.out (by omega) HG2.out)
        generalize starN ts = N at *
        clear HK HG2
        generalize ts.length = T at *
        have hge : (T : Int) - (N : Int) ≤ (R : Int) := by omega
        go_wp2_with fail
        refine hcall.out.mono ?_
        rintro e w8 ⟨rfl, hb⟩
        have HB8 := Lib.hid (HB7.out.trans (hb.mono HB7.out.size))
        clear hb hcall
        by_cases hN : N = 0
        · subst hN
          obtain rfl : R = T := HL2.out rfl
          clear HL2
          go_wp2
          go_ret
          exact ⟨rfl, HB8.out⟩
        · have hN2 : (0 : Int) < (N : Int) := by omega
          go_wp2
          go_ret
          exact ⟨rfl, HB8.out⟩


set_option maxRecDepth 100000 in
theorem lifted (os : Os) (started : os.Started) (H : Type) (enc : TypeId × Value → H) :
    ReturnsInHanded {} Tryd.checked os 9 .any (fun w args => (Rows.fnNameLengthSpec.pre enc Tryd.prog Tryd.f9 Rows.fnNameLengthRow.domain false w args ∧ laidMetH Tryd.prog Rows.fnNameLengthRow.laid w) ∧ sizedMet enc Tryd.prog Tryd.f9 (OpenSpec.ofChange Rows.fnNameLengthSpec) false w args) (Rows.fnNameLengthSpec.post enc Tryd.prog Tryd.f9 false true false false) := by
  refine returnsInHanded_of_change_and (C := Tryd.checked) (X := fun w _ => laidMetH Tryd.prog Rows.fnNameLengthRow.laid w) (fun _ _ _ hh h => h.of_heap hh) own started (by kernel_rfl) Tryd.func9
    (ChangeSpec.witness_shaped (enc := enc) (C := Tryd.checked) (os := os) (X := fun w _ => laidMetH Tryd.prog Rows.fnNameLengthRow.laid w) false (World.laidAll Tryd.prog os Rows.fnNameLengthRow.laid) #[.slice none 0 0] 8 (World.laidAll_os _ _ _)
      (World.shaped_of_ZipB (by kernel_rfl) (by kernel_rfl)) (by kernel_rfl) (by kernel_rfl) (by kernel_rfl)
      (by rw [MakeChecks.laidMetH_plain _ _ _ (by kernel_rfl)]; exact laidMet_laidAll _ (by kernel_rfl) (by kernel_rfl))) ?_
  intro W base args ds gs before hval0 hW hcnd hsz0 hL _
  have hval : ∀ (j : Nat) t v, Tryd.f9.params[j]? = some t → args[j]? = some v → Value.okWide Tryd.prog W .any base t v := hval0
  have hW' := hW
  obtain ⟨p, q, hA0, hV, rfl, hfz, hnd⟩ := hW
  have hA : DataW.TrodAll enc Tryd.prog W 0 (fun _ => true) true Tryd.f9.params.toList args.toList ds p := hA0
  rw [Tryd.params9] at hA hval
  obtain ⟨v0, vs0, d0, ds0, p0, q0, hargs, rfl, rfl, h0, r0⟩ := trodAll_cons hA
  obtain ⟨rfl, rfl, rfl⟩ := trodAll_nil r0
  obtain rfl : args = #[v0] := by cases args; simp_all
  obtain ⟨rfl, rfl⟩ := trodVars_none hV
  obtain ⟨a0, len0, cap0, rfl⟩ := okWide_slice Tryd.underlying22 (hval 0 22 v0 rfl rfl)
  have k0 := h0
  have lt0 : ∀ x ∈ p0, x.block < W.heap.size := by obtain ⟨m, hm⟩ := k0; exact DataW.trod_lt m _ _ _ hm
  obtain ⟨z0, w0⟩ : ∃ zs, IsRow .u8 W a0 len0 cap0 zs := by
    obtain ⟨fuel, hf⟩ := h0
    rcases open_ints Tryd.underlying22 Tryd.underlying5 (by kernel_rfl) hf with ⟨hcs, _⟩ | ⟨x, l, c, zs, hcs, _, hl, hm, hz, _, hcell, hwz⟩
    · simp [Value.cells] at hcs
      obtain ⟨rfl, rfl, rfl⟩ := hcs
      exact ⟨[], .inl ⟨rfl, rfl, rfl, rfl⟩⟩
    · simp [Value.cells] at hcs
      obtain ⟨rfl, rfl, rfl⟩ := hcs
      exact ⟨zs, .inr ⟨_, rfl, hl, hm, by simpa using hz, hcell, hwz⟩⟩
  obtain ⟨ae, hE⟩ := env_of hL
  clear hA0 hval0
  refine (walk a0 len0 cap0 z0 W w0 ae hE).mono fun e W' ⟨he, bel⟩ => ?_
  subst he
  exact ⟨_, rfl, _, _, _, [], _, [], hW', trodAll_mk1 (shut_bool Tryd.underlying4 _), (trodAll_cons_mk (Below.trod laidOut (by kernel_rfl) (of_decide_eq_true (by kernel_rfl)) k0 bel lt0) trodAll_mk0), rfl, bel.frame _, fun h => by cases h⟩

theorem over : Rows.fnNameLengthRow.holds Tryd.pinned (OpenSpec.ofChange Rows.fnNameLengthSpec) :=
  OpenClaim.holds_of_wide 9 Tryd.f9 rfl rfl rfl rfl rfl rfl rfl ⟨rfl, rfl, rfl, rfl, rfl⟩ rfl rfl rfl rfl rfl (by kernel_rfl) Tryd.func9 (by kernel_rfl)
    (of_decide_eq_true (by kernel_rfl)) (by unfold Func.isWrapper; first | (rw [if_pos (by decide +kernel)]; kernel_rfl) | (rw [if_neg (by decide +kernel)]; exact ⟨rfl, rfl⟩))
    (fun os started H enc _ => lifted os started H enc)

theorem proved : Rows.FnNameLengthCardSaid :=
  Claim7.holds_tied_plain_at .later [] Rows.fnNameLengthCard.laidKinds true Rows.fnNameLengthCard.stood.harness true over (fun _ h => by cases h) (by kernel_rfl) (fun _ h => by cases h) fnNameLength_row_tie rfl ⟨rfl, rfl⟩ (by kernel_rfl) rfl
    (fun f fn hf hfn => by
      obtain rfl : f = 9 := Option.some.inj ((show Tryd.prog.funcNamed Rows.fnNameLengthRow.func = some 9 by kernel_rfl).symm.trans hf) |>.symm
      obtain rfl : fn = Tryd.f9 := (Option.some.inj (Tryd.func9.symm.trans hfn)).symm
      exact ⟨by kernel_rfl, fun j t ht => by
        rw [Tryd.params9] at ht
        have hm : t ∈ [22] := by simpa using Array.mem_of_getElem? ht
        have hall : ([22].all fun u => !Tryd.prog.wantsStandIn u) = true := by kernel_rfl
        exact (show Tryd.prog.wantsStandIn t = false by simpa using List.all_eq_true.1 hall t hm)⟩)
    (by kernel_rfl)
end Go.Proofs.YtgpcnckiabjefaaDoor.fnNameLength


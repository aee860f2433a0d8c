/-
  Where a and b are exchanged in a pattern without classes and in a name, the answer is the same: the law returns true for every input and leaves it as it was. Conditions: none.
  The frame round the walk is the kit's own (proof-skeleton.mjs).
-/
import Derived.Test.YtnjinkbhepimkaaDoorRows
import Derived.Test.YtnjinkbhepimkaaDoorExchC
import Derived.Test.YtnjinkbhepimkaaDoorTie
import Derived.Test.YtnjinkbhepimkaaDoorCards
import Derived.Test.YtnjinkbhepimkaaDoorLaid
import Derived.LaidMore
import Derived.Lay
import Derived.SevenTiedAt
import Derived.Stop.Joined
namespace Go.Proofs.YtnjinkbhepimkaaDoor.fnExchanged
open Go.ChangeShapes Go.WideShapes Go.ChangeAt Go.RowKit
open Go.ChangeMaps (open_string shut_string)
set_option linter.unusedVariables false

set_option maxHeartbeats 2000000 in
theorem walk (a : Option Addr) (len cap : Nat) (zs : List Int) (w : World) (hr : IsRow .u8 w a len cap zs) (ae : Addr) (hE : Env ae w) :
    Calls Tryd.prog 11 #[.slice a len cap] w fun e w' => e = .returned (.bool true) ∧ Below w.heap.size w w' := by
  have HR := Lib.hid hr
  have HE := Lib.hid hE
  clear hr hE
  by_cases hlen : 1048576 < len
  · have hl' : (1048576 : Int) < len := by omega
    go_enter Tryd.func11, Tryd.ntmps11
    go_wp2
    go_ret
    exact ⟨rfl, Below.refl _ _⟩
  · have hl' : ¬ (1048576 : Int) < len := by omega
    go_enter Tryd.func11, Tryd.ntmps11
    go_wp2_with fail
    refine (drawMatch_any a len cap zs _ HR.out (by omega)).mono ?_
    rintro e w1 ⟨p, n, rfl, hpl, hnl, hb⟩
    have HE1 := Lib.hid (HE.out.on hb)
    have HB1 := Lib.hid hb
    clear hb HR HE
    go_wp2_with fail
    refine (yesStar ae w1 HE1.out).mono ?_
    rintro e w2 ⟨rfl, hb⟩
    have HE2 := Lib.hid (HE1.out.on hb)
    have HB2 := Lib.hid (HB1.out.trans (hb.mono HB1.out.size))
    clear hb HE1 HB1
    go_wp2_with fail
    refine (wellFormedB ae _ p w2 HE2.out rfl (by omega)).mono ?_
    rintro e w3 ⟨rfl, hb⟩
    have HE3 := Lib.hid (HE2.out.on hb)
    have HB3 := Lib.hid (HB2.out.trans (hb.mono HB2.out.size))
    clear hb HE2 HB2
    generalize hA : wfB p = A
    have HA := Lib.hid hA
    clear hA
    cases A with
    | false =>
      go_wp2
      go_ret
      exact ⟨rfl, HB3.out⟩
    | true =>
      go_wp2_with fail
      refine (validB ae _ n w3 HE3.out rfl (by omega)).mono ?_
      rintro e w4 ⟨rfl, hb⟩
      have HE4 := Lib.hid (HE3.out.on hb)
      have HB4 := Lib.hid (HB3.out.trans (hb.mono HB3.out.size))
      clear hb HE3 HB3
      generalize hV : Lib.validD n = V
      have HV := Lib.hid hV
      clear hV
      cases V with
      | false =>
        go_wp2
        go_ret
        exact ⟨rfl, HB4.out⟩
      | true =>
        clear HV
        obtain ⟨ts, hrd, hpa, hgood, _, _⟩ := wf_terms HA.out
        have hwt := read_weight' p ts hrd
        have hwl := weight_len ts
        have HG : Hid (∀ t ∈ ts, okNum t) := Lib.hid (fun t ht => good_ok (hgood t ht))
        have HRD := Lib.hid hrd
        have HQ : Hid ((∀ t ∈ ts, t.kind ≠ 2) → mm p n = mm (p.map xb) (n.map xb)) := Lib.hid (fun hk => law_exchanged hpa hgood hk n)
        clear hrd hpa hgood HA
        have hfd := fld0
        go_wp2_with fail
        refine (readB _ p w4 rfl (by omega)).mono ?_
        rintro e w5 ⟨hb, va, vn, vc, rfl, hts⟩
        obtain ⟨rfl, htm⟩ := hts ts HRD.out
        have HT := Lib.hid htm
        have HE5 := Lib.hid (HE4.out.on hb)
        have HB5 := Lib.hid (HB4.out.trans (hb.mono HB4.out.size))
        generalize rdOk p = OK
        generalize rdSet p = ST
        clear hb HE4 HB4 hts htm
        clear HRD
        go_wp2
        go_loopw [29] (fun i wr => ∃ (k : Nat), i = .int .i64 (k : Nat) ∧ k ≤ ts.length ∧ (∀ t ∈ ts.take k, t.kind ≠ 2) ∧ Below w5.heap.size w5 wr) (fun i _ => ts.length - (intOf i).toNat)
        case atStart => exact ⟨0, rfl, by omega, by simp, Below.refl _ _⟩
        case round =>
          obtain ⟨k, rfl, hk, hno, hb⟩ := hrel
          have HB := Lib.hid hb
          have HNO := Lib.hid hno
          clear hb hno
          by_cases hkl : k < ts.length
          · obtain ⟨t, htk⟩ : ∃ t, ts[k]? = some t := ⟨_, List.getElem?_eq_getElem hkl⟩
            obtain ⟨a', cap', e', _, hcells⟩ := HT.out.below HB.out
            obtain ⟨g, o, rv, rfl, hlo, hlt, c1, c2, c3, c4, hrg⟩ := hcells k t htk
            injection e' with e1 e2 e3
            subst e1
            clear e2 e3 hcells
            obtain ⟨n1, n2, n3⟩ := HG.out t (List.mem_of_getElem? htk)
            have HBA : Hid (Below wr.heap.size wr (wr.alloc (.cells #[.int .i64 (t.kind : Nat), .int .i32 (t.chr : Nat), .bool t.neg, rv] 38))) := Lib.hid ((Below.refl _ wr).alloc (Nat.le_refl _) _)
            have HBW := Lib.hid (HB.out.trans (HBA.out.mono HB.out.size))
            obtain ⟨ra, rcap, rfl, _⟩ := hrg
            by_cases k2 : t.kind = 2
            · have HBF := Lib.hid (HB5.out.trans (HBW.out.mono HB5.out.size))
              obtain ⟨tk, tc, tn, trs⟩ := t
              simp only at c1 c2 c3 c4 k2 HBF
              subst k2
              clear HB HBA HBW HT HG HQ htk HNO n3
              go_wp2
              go_ret
              exact ⟨rfl, HBF.out⟩
            · have HNX : Hid (∀ x ∈ ts.take (k + 1), x.kind ≠ 2) := Lib.hid (by
                intro x hx
                rw [take_snoc' ts k t htk] at hx
                rcases List.mem_append.1 hx with h | h
                · exact HNO.out x h
                · rw [List.mem_singleton.1 h]; exact k2)
              have b3 : (((t.kind : Nat) : Int) == 2) = false := by simp; omega
              obtain ⟨tk, tc, tn, trs⟩ := t
              simp only at c1 c2 c3 c4 n1 n2 b3 HBW
              clear HB HBA HT HG HQ htk HNO n3 k2
              go_wp2
              go_roundw
              case rel => exact ⟨k + 1, by go_num, by omega, HNX.out, HBW.out⟩
              case measure => simp [intOf]; omega
          · obtain rfl : k = ts.length := by omega
            rw [List.take_length] at HNO
            have HQ2 := Lib.hid (HQ.out HNO.out)
            have HE6 := Lib.hid (HE5.out.on HB.out)
            have HB6 := Lib.hid (HB5.out.trans (HB.out.mono HB5.out.size))
            have hpx : (p.map xb).length = p.length := List.length_map ..
            have hnx : (n.map xb).length = n.length := List.length_map ..
            obtain ⟨PX, hPX⟩ : ∃ PX, PX = p.map xb := ⟨_, rfl⟩
            obtain ⟨NX, hNX⟩ : ∃ NX, NX = n.map xb := ⟨_, rfl⟩
            rw [← hPX] at HQ2 hpx
            rw [← hNX] at HQ2 hnx
            have HPX := Lib.hid hPX.symm
            have HNX := Lib.hid hNX.symm
            clear HB HT HG HQ HNO HE5 HB5 hPX hNX
            obtain ⟨w6, hww⟩ : ∃ x, x = wr := ⟨_, rfl⟩
            subst hww
            go_wp2_with fail
            refine (yesB ae _ _ p n w6 HE6.out rfl rfl (by omega) (by omega)).mono ?_
            rintro e w7 ⟨rfl, hb⟩
            have HE7 := Lib.hid (HE6.out.on hb)
            have HB7 := Lib.hid (HB6.out.trans (hb.mono HB6.out.size))
            clear hb HE6 HB6
            rw [HQ2.out]
            clear HQ2
            go_wp2_with fail
            refine (exchanged_call p w7 (by omega)).mono ?_
            rintro e w8 ⟨rfl, hb⟩
            have HE8 := Lib.hid (HE7.out.on hb)
            have HB8 := Lib.hid (HB7.out.trans (hb.mono HB7.out.size))
            clear hb HE7 HB7
            rw [HPX.out]
            clear HPX
            go_wp2_with fail
            refine (exchanged_call n w8 (by omega)).mono ?_
            rintro e w9 ⟨rfl, hb⟩
            have HE9 := Lib.hid (HE8.out.on hb)
            have HB9 := Lib.hid (HB8.out.trans (hb.mono HB8.out.size))
            clear hb HE8 HB8
            rw [HNX.out]
            clear HNX
            go_wp2_with fail
            refine (yesB ae _ _ PX NX w9 HE9.out rfl rfl (by omega) (by omega)).mono ?_
            rintro e w10 ⟨rfl, hb⟩
            have HE10 := Lib.hid (HE9.out.on hb)
            have HB10 := Lib.hid (HB9.out.trans (hb.mono HB9.out.size))
            clear hb HE9 HB9
            generalize mm PX NX = R
            cases R with
            | false =>
              go_wp2
              go_ret
              exact ⟨rfl, HB10.out⟩
            | true =>
              go_wp2
              go_ret
              exact ⟨rfl, HB10.out⟩


set_option maxRecDepth 100000 in
theorem lifted (os : Os) (started : os.Started) (H : Type) (enc : TypeId × Value → H) :
    ReturnsInHanded {} Tryd.checked os 11 .any (fun w args => (Rows.fnExchangedSpec.pre enc Tryd.prog Tryd.f11 Rows.fnExchangedRow.domain false w args ∧ laidMetH Tryd.prog Rows.fnExchangedRow.laid w) ∧ sizedMet enc Tryd.prog Tryd.f11 (OpenSpec.ofChange Rows.fnExchangedSpec) false w args) (Rows.fnExchangedSpec.post enc Tryd.prog Tryd.f11 false true false false) := by
  refine returnsInHanded_of_change_and (C := Tryd.checked) (X := fun w _ => laidMetH Tryd.prog Rows.fnExchangedRow.laid w) (fun _ _ _ hh h => h.of_heap hh) own started (by kernel_rfl) Tryd.func11
    (ChangeSpec.witness_shaped (enc := enc) (C := Tryd.checked) (os := os) (X := fun w _ => laidMetH Tryd.prog Rows.fnExchangedRow.laid w) false (World.laidAll Tryd.prog os Rows.fnExchangedRow.laid) #[.slice none 0 0] 8 (World.laidAll_os _ _ _)
      (World.shaped_of_ZipB (by kernel_rfl) (by kernel_rfl)) (by kernel_rfl) (by kernel_rfl) (by kernel_rfl)
      (by rw [MakeChecks.laidMetH_plain _ _ _ (by kernel_rfl)]; exact laidMet_laidAll _ (by kernel_rfl) (by kernel_rfl))) ?_
  intro W base args ds gs before hval0 hW hcnd hsz0 hL _
  have hval : ∀ (j : Nat) t v, Tryd.f11.params[j]? = some t → args[j]? = some v → Value.okWide Tryd.prog W .any base t v := hval0
  have hW' := hW
  obtain ⟨p, q, hA0, hV, rfl, hfz, hnd⟩ := hW
  have hA : DataW.TrodAll enc Tryd.prog W 0 (fun _ => true) true Tryd.f11.params.toList args.toList ds p := hA0
  rw [Tryd.params11] at hA hval
  obtain ⟨v0, vs0, d0, ds0, p0, q0, hargs, rfl, rfl, h0, r0⟩ := trodAll_cons hA
  obtain ⟨rfl, rfl, rfl⟩ := trodAll_nil r0
  obtain rfl : args = #[v0] := by cases args; simp_all
  obtain ⟨rfl, rfl⟩ := trodVars_none hV
  obtain ⟨a0, len0, cap0, rfl⟩ := okWide_slice Tryd.underlying22 (hval 0 22 v0 rfl rfl)
  have k0 := h0
  have lt0 : ∀ x ∈ p0, x.block < W.heap.size := by obtain ⟨m, hm⟩ := k0; exact DataW.trod_lt m _ _ _ hm
  obtain ⟨z0, w0⟩ : ∃ zs, IsRow .u8 W a0 len0 cap0 zs := by
    obtain ⟨fuel, hf⟩ := h0
    rcases open_ints Tryd.underlying22 Tryd.underlying5 (by kernel_rfl) hf with ⟨hcs, _⟩ | ⟨x, l, c, zs, hcs, _, hl, hm, hz, _, hcell, hwz⟩
    · simp [Value.cells] at hcs
      obtain ⟨rfl, rfl, rfl⟩ := hcs
      exact ⟨[], .inl ⟨rfl, rfl, rfl, rfl⟩⟩
    · simp [Value.cells] at hcs
      obtain ⟨rfl, rfl, rfl⟩ := hcs
      exact ⟨zs, .inr ⟨_, rfl, hl, hm, by simpa using hz, hcell, hwz⟩⟩
  obtain ⟨ae, hE⟩ := env_of hL
  clear hA0 hval0
  refine (walk a0 len0 cap0 z0 W w0 ae hE).mono fun e W' ⟨he, bel⟩ => ?_
  subst he
  exact ⟨_, rfl, _, _, _, [], _, [], hW', trodAll_mk1 (shut_bool Tryd.underlying4 _), (trodAll_cons_mk (Below.trod laidOut (by kernel_rfl) (of_decide_eq_true (by kernel_rfl)) k0 bel lt0) trodAll_mk0), rfl, bel.frame _, fun h => by cases h⟩

theorem over : Rows.fnExchangedRow.holds Tryd.pinned (OpenSpec.ofChange Rows.fnExchangedSpec) :=
  OpenClaim.holds_of_wide 11 Tryd.f11 rfl rfl rfl rfl rfl rfl rfl ⟨rfl, rfl, rfl, rfl, rfl⟩ rfl rfl rfl rfl rfl (by kernel_rfl) Tryd.func11 (by kernel_rfl)
    (of_decide_eq_true (by kernel_rfl)) (by unfold Func.isWrapper; first | (rw [if_pos (by decide +kernel)]; kernel_rfl) | (rw [if_neg (by decide +kernel)]; exact ⟨rfl, rfl⟩))
    (fun os started H enc _ => lifted os started H enc)

theorem proved : Rows.FnExchangedCardSaid :=
  Claim7.holds_tied_plain_at .later [] Rows.fnExchangedCard.laidKinds true Rows.fnExchangedCard.stood.harness true over (fun _ h => by cases h) (by kernel_rfl) (fun _ h => by cases h) fnExchanged_row_tie rfl ⟨rfl, rfl⟩ (by kernel_rfl) rfl
    (fun f fn hf hfn => by
      obtain rfl : f = 11 := Option.some.inj ((show Tryd.prog.funcNamed Rows.fnExchangedRow.func = some 11 by kernel_rfl).symm.trans hf) |>.symm
      obtain rfl : fn = Tryd.f11 := (Option.some.inj (Tryd.func11.symm.trans hfn)).symm
      exact ⟨by kernel_rfl, fun j t ht => by
        rw [Tryd.params11] at ht
        have hm : t ∈ [22] := by simpa using Array.mem_of_getElem? ht
        have hall : ([22].all fun u => !Tryd.prog.wantsStandIn u) = true := by kernel_rfl
        exact (show Tryd.prog.wantsStandIn t = false by simpa using List.all_eq_true.1 hall t hm)⟩)
    (by kernel_rfl)
end Go.Proofs.YtnjinkbhepimkaaDoor.fnExchanged


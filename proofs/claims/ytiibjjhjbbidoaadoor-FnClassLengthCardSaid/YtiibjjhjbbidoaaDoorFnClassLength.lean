/-
  No class matches a name of none or of more than one character: the law returns true for every input and leaves it as it was. Conditions: none.
  The frame round the walk is the kit's own (proof-skeleton.mjs).
-/
import Derived.Test.YtiibjjhjbbidoaaDoorRows
import Derived.Test.YtiibjjhjbbidoaaDoorDrawN
import Derived.Test.YtiibjjhjbbidoaaDoorCuts
import Derived.Test.YtiibjjhjbbidoaaDoorLawC
import Derived.Test.YtiibjjhjbbidoaaDoorTie
import Derived.Test.YtiibjjhjbbidoaaDoorCards
import Derived.Test.YtiibjjhjbbidoaaDoorLaid
import Derived.LaidMore
import Derived.Lay
import Derived.SevenTiedAt
import Derived.Stop.Joined
namespace Go.Proofs.YtiibjjhjbbidoaaDoor.fnClassLength
open Go.ChangeShapes Go.WideShapes Go.ChangeAt Go.RowKit
open Go.ChangeMaps (open_string shut_string)
set_option linter.unusedVariables false

set_option maxHeartbeats 2000000 in
theorem walk (a : Option Addr) (len cap : Nat) (zs : List Int) (w : World) (hr : IsRow .u8 w a len cap zs) (ae : Addr) (hE : Env ae w) :
    Calls Tryd.prog 7 #[.slice a len cap] w fun e w' => e = .returned (.bool true) ∧ Below w.heap.size w w' := by
  have HR := Lib.hid hr
  have HE := Lib.hid hE
  clear hr hE
  by_cases hlen : 1048576 < len
  · have hl' : (1048576 : Int) < len := by omega
    go_enter Tryd.func7, Tryd.ntmps7
    go_wp2
    go_ret
    exact ⟨rfl, Below.refl _ _⟩
  · have hl' : ¬ (1048576 : Int) < len := by omega
    go_enter Tryd.func7, Tryd.ntmps7
    go_wp2_with fail
    refine (drawMatch_any a len cap zs _ HR.out (by omega)).mono ?_
    rintro e w1 ⟨p, n, rfl, hpl, hnl, hb⟩
    have HE1 := Lib.hid (HE.out.on hb)
    have HB1 := Lib.hid hb
    clear hb HR HE
    go_wp2_with fail
    refine (yesStar ae w1 HE1.out).mono ?_
    rintro e w2 ⟨rfl, hb⟩
    have HE2 := Lib.hid (HE1.out.on hb)
    have HB2 := Lib.hid (HB1.out.trans (hb.mono HB1.out.size))
    clear hb HE1 HB1
    go_wp2_with fail
    refine (wellFormedB ae _ p w2 HE2.out rfl (by omega)).mono ?_
    rintro e w3 ⟨rfl, hb⟩
    have HE3 := Lib.hid (HE2.out.on hb)
    have HB3 := Lib.hid (HB2.out.trans (hb.mono HB2.out.size))
    clear hb HE2 HB2
    generalize hA : wfB p = A
    have HA := Lib.hid hA
    clear hA
    cases A with
    | false =>
      go_wp2
      go_ret
      exact ⟨rfl, HB3.out⟩
    | true =>
      go_wp2_with fail
      refine (validB ae _ n w3 HE3.out rfl (by omega)).mono ?_
      rintro e w4 ⟨rfl, hb⟩
      have HE4 := Lib.hid (HE3.out.on hb)
      have HB4 := Lib.hid (HB3.out.trans (hb.mono HB3.out.size))
      clear hb HE3 HB3
      generalize hC : Lib.validD n = C
      have HC := Lib.hid hC
      clear hC
      cases C with
      | false =>
        go_wp2
        go_ret
        exact ⟨rfl, HB4.out⟩
      | true =>
        have hcn := cutsL_len n
        go_wp2_with fail
        refine (cuts_call ae n w4 HE4.out (by omega)).mono ?_
        rintro e w5 ⟨v, rfl, ⟨gg, cc, rfl, hcc, hcm, hgg, hcells⟩, hb⟩
        clear hcells
        have HE5 := Lib.hid (HE4.out.on hb)
        have HB5 := Lib.hid (HB4.out.trans (hb.mono HB4.out.size))
        clear hb HE4 HB4 hgg hcc hcm
        generalize (cutsL n).length = N at *
        by_cases hN : N = 2
        · subst hN
          go_wp2
          go_ret
          exact ⟨rfl, HB5.out⟩
        · have hN2 : (((N : Nat) : Int) == 2) = false := by simp; omega
          have HR : Hid ((runes n).length ≠ 1) := Lib.hid (by omega)
          clear hN hcn
          obtain ⟨ts, hrd, hpa, hgood, _, _⟩ := wf_terms HA.out
          have hwt := read_weight' p ts hrd
          have hwl := weight_len ts
          have HG : Hid (∀ t ∈ ts, okNum t) := Lib.hid (fun t ht => good_ok (hgood t ht))
          have HRD := Lib.hid hrd
          have HQ : Hid (∀ t ∈ ts, t.kind = 2 → mm (writeW t) n = false) := Lib.hid (fun t ht hk => law_classLength (hgood t ht) hk HC.out HR.out)
          clear HA HC HR
          clear hrd hpa hgood
          have hfd := fld0
          go_wp2_with fail
          refine (readB _ p w5 rfl (by omega)).mono ?_
          rintro e w6 ⟨hb, va, vn, vc, rfl, hts⟩
          obtain ⟨rfl, htm⟩ := hts ts HRD.out
          have HT := Lib.hid htm
          have HE6 := Lib.hid (HE5.out.on hb)
          have HB6 := Lib.hid (HB5.out.trans (hb.mono HB5.out.size))
          generalize rdOk p = OK
          generalize rdSet p = ST
          clear hb HE5 HB5 hts htm
          clear HRD
          go_wp2
          go_loopw [35] (fun i wr => ∃ (k : Nat), i = .int .i64 (k : Nat) ∧ k ≤ ts.length ∧ Below w6.heap.size w6 wr) (fun i _ => ts.length - (intOf i).toNat)
          case atStart => exact ⟨0, rfl, by omega, Below.refl _ _⟩
          case round =>
            obtain ⟨k, rfl, hk, hb⟩ := hrel
            have HB := Lib.hid hb
            clear hb
            by_cases hkl : k < ts.length
            · obtain ⟨t, htk⟩ : ∃ t, ts[k]? = some t := ⟨_, List.getElem?_eq_getElem hkl⟩
              obtain ⟨a', cap', e', _, hcells⟩ := HT.out.below HB.out
              obtain ⟨g, o, rv, rfl, hlo, hlt, c1, c2, c3, c4, hrg⟩ := hcells k t htk
              injection e' with e1 e2 e3
              subst e1
              clear e2 e3 hcells
              obtain ⟨n1, n2, n3⟩ := HG.out t (List.mem_of_getElem? htk)
              have hwtk : t.rs.length ≤ weight ts := by
                have h1 := weight_append (ts.take k) (ts.drop k)
                rw [List.take_append_drop] at h1
                have h2 : ts.drop k = t :: ts.drop (k + 1) := by
                  rw [List.drop_eq_getElem_cons hkl]
                  rw [List.getElem?_eq_getElem hkl] at htk
                  injection htk with htk
                  rw [htk]
                rw [h2, weight_cons] at h1
                omega
              have z1 := writeW_len t
              have HBA : Hid (Below wr.heap.size wr (wr.alloc (.cells #[.int .i64 (t.kind : Nat), .int .i32 (t.chr : Nat), .bool t.neg, rv] 40))) := Lib.hid ((Below.refl _ wr).alloc (Nat.le_refl _) _)
              have hrg2 := hrg.below HBA.out
              have HBW := Lib.hid (HB.out.trans (HBA.out.mono HB.out.size))
              by_cases k2 : t.kind = 2
              · have hcall := Lib.hid (write_call _ t rv _ hrg2 n1 n2 (by omega) n3)
                have HM := Lib.hid (HQ.out t (List.mem_of_getElem? htk) k2)
                obtain ⟨ra, rcap, rfl, _⟩ := hrg
                clear n3 hrg2 HG HT HB HBA htk HQ
                generalize writeW t = ET at *
                obtain ⟨tk, tc, tn, trs⟩ := t
                simp only at c1 c2 c3 c4 n1 n2 hwtk z1 k2 hcall HBW
                subst k2
                go_wp2_with fail
                refine hcall.out.mono ?_
                rintro e w' ⟨rfl, hb⟩
                have HB2 := Lib.hid (HBW.out.trans (hb.mono HBW.out.size))
                have HEV := Lib.hid (HE6.out.on HB2.out)
                clear hb HBW hcall
                go_wp2_with fail
                refine (yesB ae _ _ ET n w' HEV.out rfl rfl (by omega) (by omega)).mono ?_
                rintro e w'' ⟨rfl, hb⟩
                have HB3 := Lib.hid (HB2.out.trans (hb.mono HB2.out.size))
                clear hb HB2 HEV
                rw [HM.out]
                go_wp2
                go_roundw
                case rel => exact ⟨k + 1, by go_num, by omega, HB3.out⟩
                case measure => simp [intOf]; omega
              · have b3 : (((t.kind : Nat) : Int) == 2) = false := by simp; omega
                obtain ⟨ra, rcap, rfl, _⟩ := hrg
                clear n3 hrg2 HG HT HB HBA htk HQ k2
                obtain ⟨tk, tc, tn, trs⟩ := t
                simp only at c1 c2 c3 c4 n1 n2 hwtk z1 b3 HBW
                go_wp2
                go_roundw
                case rel => exact ⟨k + 1, by go_num, by omega, HBW.out⟩
                case measure => simp [intOf]; omega
            · obtain rfl : k = ts.length := by omega
              have HBF := Lib.hid (HB6.out.trans (HB.out.mono HB6.out.size))
              clear HB HT HG HQ
              go_wp2
              go_ret
              exact ⟨rfl, HBF.out⟩


set_option maxRecDepth 100000 in
theorem lifted (os : Os) (started : os.Started) (H : Type) (enc : TypeId × Value → H) :
    ReturnsInHanded {} Tryd.checked os 7 .any (fun w args => (Rows.fnClassLengthSpec.pre enc Tryd.prog Tryd.f7 Rows.fnClassLengthRow.domain false w args ∧ laidMetH Tryd.prog Rows.fnClassLengthRow.laid w) ∧ sizedMet enc Tryd.prog Tryd.f7 (OpenSpec.ofChange Rows.fnClassLengthSpec) false w args) (Rows.fnClassLengthSpec.post enc Tryd.prog Tryd.f7 false true false false) := by
  refine returnsInHanded_of_change_and (C := Tryd.checked) (X := fun w _ => laidMetH Tryd.prog Rows.fnClassLengthRow.laid w) (fun _ _ _ hh h => h.of_heap hh) own started (by kernel_rfl) Tryd.func7
    (ChangeSpec.witness_shaped (enc := enc) (C := Tryd.checked) (os := os) (X := fun w _ => laidMetH Tryd.prog Rows.fnClassLengthRow.laid w) false (World.laidAll Tryd.prog os Rows.fnClassLengthRow.laid) #[.slice none 0 0] 8 (World.laidAll_os _ _ _)
      (World.shaped_of_ZipB (by kernel_rfl) (by kernel_rfl)) (by kernel_rfl) (by kernel_rfl) (by kernel_rfl)
      (by rw [MakeChecks.laidMetH_plain _ _ _ (by kernel_rfl)]; exact laidMet_laidAll _ (by kernel_rfl) (by kernel_rfl))) ?_
  intro W base args ds gs before hval0 hW hcnd hsz0 hL _
  have hval : ∀ (j : Nat) t v, Tryd.f7.params[j]? = some t → args[j]? = some v → Value.okWide Tryd.prog W .any base t v := hval0
  have hW' := hW
  obtain ⟨p, q, hA0, hV, rfl, hfz, hnd⟩ := hW
  have hA : DataW.TrodAll enc Tryd.prog W 0 (fun _ => true) true Tryd.f7.params.toList args.toList ds p := hA0
  rw [Tryd.params7] at hA hval
  obtain ⟨v0, vs0, d0, ds0, p0, q0, hargs, rfl, rfl, h0, r0⟩ := trodAll_cons hA
  obtain ⟨rfl, rfl, rfl⟩ := trodAll_nil r0
  obtain rfl : args = #[v0] := by cases args; simp_all
  obtain ⟨rfl, rfl⟩ := trodVars_none hV
  obtain ⟨a0, len0, cap0, rfl⟩ := okWide_slice Tryd.underlying22 (hval 0 22 v0 rfl rfl)
  have k0 := h0
  have lt0 : ∀ x ∈ p0, x.block < W.heap.size := by obtain ⟨m, hm⟩ := k0; exact DataW.trod_lt m _ _ _ hm
  obtain ⟨z0, w0⟩ : ∃ zs, IsRow .u8 W a0 len0 cap0 zs := by
    obtain ⟨fuel, hf⟩ := h0
    rcases open_ints Tryd.underlying22 Tryd.underlying5 (by kernel_rfl) hf with ⟨hcs, _⟩ | ⟨x, l, c, zs, hcs, _, hl, hm, hz, _, hcell, hwz⟩
    · simp [Value.cells] at hcs
      obtain ⟨rfl, rfl, rfl⟩ := hcs
      exact ⟨[], .inl ⟨rfl, rfl, rfl, rfl⟩⟩
    · simp [Value.cells] at hcs
      obtain ⟨rfl, rfl, rfl⟩ := hcs
      exact ⟨zs, .inr ⟨_, rfl, hl, hm, by simpa using hz, hcell, hwz⟩⟩
  obtain ⟨ae, hE⟩ := env_of hL
  clear hA0 hval0
  refine (walk a0 len0 cap0 z0 W w0 ae hE).mono fun e W' ⟨he, bel⟩ => ?_
  subst he
  exact ⟨_, rfl, _, _, _, [], _, [], hW', trodAll_mk1 (shut_bool Tryd.underlying4 _), (trodAll_cons_mk (Below.trod laidOut (by kernel_rfl) (of_decide_eq_true (by kernel_rfl)) k0 bel lt0) trodAll_mk0), rfl, bel.frame _, fun h => by cases h⟩

theorem over : Rows.fnClassLengthRow.holds Tryd.pinned (OpenSpec.ofChange Rows.fnClassLengthSpec) :=
  OpenClaim.holds_of_wide 7 Tryd.f7 rfl rfl rfl rfl rfl rfl rfl ⟨rfl, rfl, rfl, rfl, rfl⟩ rfl rfl rfl rfl rfl (by kernel_rfl) Tryd.func7 (by kernel_rfl)
    (of_decide_eq_true (by kernel_rfl)) (by unfold Func.isWrapper; first | (rw [if_pos (by decide +kernel)]; kernel_rfl) | (rw [if_neg (by decide +kernel)]; exact ⟨rfl, rfl⟩))
    (fun os started H enc _ => lifted os started H enc)

theorem proved : Rows.FnClassLengthCardSaid :=
  Claim7.holds_tied_plain_at .later [] Rows.fnClassLengthCard.laidKinds true Rows.fnClassLengthCard.stood.harness true over (fun _ h => by cases h) (by kernel_rfl) (fun _ h => by cases h) fnClassLength_row_tie rfl ⟨rfl, rfl⟩ (by kernel_rfl) rfl
    (fun f fn hf hfn => by
      obtain rfl : f = 7 := Option.some.inj ((show Tryd.prog.funcNamed Rows.fnClassLengthRow.func = some 7 by kernel_rfl).symm.trans hf) |>.symm
      obtain rfl : fn = Tryd.f7 := (Option.some.inj (Tryd.func7.symm.trans hfn)).symm
      exact ⟨by kernel_rfl, fun j t ht => by
        rw [Tryd.params7] at ht
        have hm : t ∈ [22] := by simpa using Array.mem_of_getElem? ht
        have hall : ([22].all fun u => !Tryd.prog.wantsStandIn u) = true := by kernel_rfl
        exact (show Tryd.prog.wantsStandIn t = false by simpa using List.all_eq_true.1 hall t hm)⟩)
    (by kernel_rfl)
end Go.Proofs.YtiibjjhjbbidoaaDoor.fnClassLength


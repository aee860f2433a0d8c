/-
  A pattern with a backslash before each character that stands for itself answers every name as before: the law returns true for every input and leaves it as it was. Conditions: none.
  The frame round the walk is the kit's own (proof-skeleton.mjs).
-/
import Derived.Test.YtgpcnckiabjefaaDoorRows
import Derived.Test.YtgpcnckiabjefaaDoorDrawN
import Derived.Test.YtgpcnckiabjefaaDoorLawE
import Derived.Test.YtgpcnckiabjefaaDoorQuoteC
import Derived.Test.YtgpcnckiabjefaaDoorTie
import Derived.Test.YtgpcnckiabjefaaDoorCards
import Derived.Test.YtgpcnckiabjefaaDoorLaid
import Derived.LaidMore
import Derived.Lay
import Derived.SevenTiedAt
import Derived.Stop.Joined
namespace Go.Proofs.YtgpcnckiabjefaaDoor.fnMatchEscaped
open Go.ChangeShapes Go.WideShapes Go.ChangeAt Go.RowKit
open Go.ChangeMaps (open_string shut_string)
set_option linter.unusedVariables false

set_option maxHeartbeats 2000000 in
theorem walk (a : Option Addr) (len cap : Nat) (zs : List Int) (w : World) (hr : IsRow .u8 w a len cap zs) (ae : Addr) (hE : Env ae w) :
    Calls Tryd.prog 6 #[.slice a len cap] w fun e w' => e = .returned (.bool true) ∧ Below w.heap.size w w' := by
  have HR := Lib.hid hr
  have HE := Lib.hid hE
  clear hr hE
  by_cases hlen : 1048576 < len
  · have hl' : (1048576 : Int) < len := by omega
    go_enter Tryd.func6, Tryd.ntmps6
    go_wp2
    go_ret
    exact ⟨rfl, Below.refl _ _⟩
  · have hl' : ¬ (1048576 : Int) < len := by omega
    go_enter Tryd.func6, Tryd.ntmps6
    go_wp2_with fail
    refine (drawMatch_any a len cap zs _ HR.out (by omega)).mono ?_
    rintro e w1 ⟨p, n, rfl, hpl, hnl, hb⟩
    have HE1 := Lib.hid (HE.out.on hb)
    have HB1 := Lib.hid hb
    clear hb HR HE
    go_wp2_with fail
    refine (yesStar ae w1 HE1.out).mono ?_
    rintro e w2 ⟨rfl, hb⟩
    have HE2 := Lib.hid (HE1.out.on hb)
    have HB2 := Lib.hid (HB1.out.trans (hb.mono HB1.out.size))
    clear hb HE1 HB1
    go_wp2_with fail
    refine (wellFormedB ae _ p w2 HE2.out rfl (by omega)).mono ?_
    rintro e w3 ⟨rfl, hb⟩
    have HE3 := Lib.hid (HE2.out.on hb)
    have HB3 := Lib.hid (HB2.out.trans (hb.mono HB2.out.size))
    clear hb HE2 HB2
    generalize hA : wfB p = A
    have HA := Lib.hid hA
    clear hA
    cases A with
    | false =>
      go_wp2
      go_ret
      exact ⟨rfl, HB3.out⟩
    | true =>
      go_wp2_with fail
      refine (validB ae _ n w3 HE3.out rfl (by omega)).mono ?_
      rintro e w4 ⟨rfl, hb⟩
      have HE4 := Lib.hid (HE3.out.on hb)
      have HB4 := Lib.hid (HB3.out.trans (hb.mono HB3.out.size))
      clear hb HE3 HB3
      generalize hC : Lib.validD n = C
      have HC := Lib.hid hC
      clear hC
      cases C with
      | false =>
        go_wp2
        go_ret
        exact ⟨rfl, HB4.out⟩
      | true =>
        obtain ⟨ts, hrd, hpa, hgood, _, _⟩ := wf_terms HA.out
        have hwt := read_weight' p ts hrd
        have hwl := weight_len ts
        have HG : Hid (∀ t ∈ ts, okNum t) := Lib.hid (fun t ht => good_ok (hgood t ht))
        have HRD := Lib.hid hrd
        have HQ := Lib.hid (law_escaped hpa hgood n)
        have hel := escA_len ts
        clear HA HC
        clear hrd hpa hgood
        have hfd := fld0
        go_wp2_with fail
        refine (readB _ p w4 rfl (by omega)).mono ?_
        rintro e w5 ⟨hb, va, vn, vc, rfl, hts⟩
        obtain ⟨rfl, htm⟩ := hts ts HRD.out
        have HT := Lib.hid htm
        have HE5 := Lib.hid (HE4.out.on hb)
        have HB5 := Lib.hid (HB4.out.trans (hb.mono HB4.out.size))
        generalize rdOk p = OK
        generalize rdSet p = ST
        clear hb HE4 HB4 hts htm
        clear HRD
        go_wp2
        go_loopw [5, 30] (fun o i wr => EscRel ts w5 o i wr) (fun _ i _ => ts.length - (intOf i).toNat)
        case atStart => exact ⟨0, ByteArray.empty, rfl, by omega, rfl, rfl, Below.refl _ _⟩
        case round =>
          obtain ⟨k, s, rfl, hk, rfl, hs, hb⟩ := hrel
          have HS := Lib.hid hs
          have hsl : s.size ≤ 20 * weight ts := by
            rw [ba_len, hs]
            have h1 := escA_len (ts.take k)
            have h2 := weight_take ts k
            omega
          have HB := Lib.hid hb
          clear hs hb
          by_cases hkl : k < ts.length
          · obtain ⟨t, htk⟩ : ∃ t, ts[k]? = some t := ⟨_, List.getElem?_eq_getElem hkl⟩
            obtain ⟨a', cap', e', _, hcells⟩ := HT.out.below HB.out
            obtain ⟨g, o, rv, rfl, hlo, hlt, c1, c2, c3, c4, hrg⟩ := hcells k t htk
            injection e' with e1 e2 e3
            subst e1
            clear e2 e3 hcells
            obtain ⟨n1, n2, n3⟩ := HG.out t (List.mem_of_getElem? htk)
            have hwtk : t.rs.length ≤ weight ts := by
              have h1 := weight_append (ts.take k) (ts.drop k)
              rw [List.take_append_drop] at h1
              have h2 : ts.drop k = t :: ts.drop (k + 1) := by
                rw [List.drop_eq_getElem_cons hkl]
                rw [List.getElem?_eq_getElem hkl] at htk
                injection htk with htk
                rw [htk]
              rw [h2, weight_cons] at h1
              omega
            have hlen := escT_len t
            have z1 : (⟨(escT t).toArray⟩ : ByteArray).size ≤ 20 + 11 * t.rs.length := hlen
            have hS2 : Hid ((s ++ ⟨(escT t).toArray⟩ : ByteArray).data.toList = escA (ts.take (k + 1))) := by
              apply Lib.hid
              rw [take_snoc' ts k t htk, escA_snoc, ba_app, HS.out]
            have HBA : Hid (Below wr.heap.size wr (wr.alloc (.cells #[.int .i64 (t.kind : Nat), .int .i32 (t.chr : Nat), .bool t.neg, rv] 33))) := Lib.hid ((Below.refl _ wr).alloc (Nat.le_refl _) _)
            have hrg2 := hrg.below HBA.out
            have HEI : Hid (t.kind = 3 → escT t = quoteB (enc t.chr)) := Lib.hid (fun h => by unfold escT; rw [if_pos h])
            have HEO : Hid (t.kind ≠ 3 → escT t = writeW t) := Lib.hid (fun h => by unfold escT; rw [if_neg h])
            have HBW := Lib.hid (HB.out.trans (HBA.out.mono HB.out.size))
            by_cases k3 : t.kind = 3
            · have hcall := Lib.hid (quoteCB (Utf8.encode (t.chr : Int)) (enc t.chr) (wr.alloc (.cells #[.int .i64 (t.kind : Nat), .int .i32 (t.chr : Nat), .bool t.neg, rv] 33)) (encode_enc _) (by have := (enc_len t.chr).2; omega))
              rw [← HEI.out k3] at hcall
              obtain ⟨ra, rcap, rfl, _⟩ := hrg
              clear HEI HEO n3 hrg2 HG HT HB HBA htk HS hlen
              generalize escT t = ET at *
              obtain ⟨tk, tc, tn, trs⟩ := t
              simp only at c1 c2 c3 c4 n1 n2 hwtk z1 k3 hcall HBW
              subst k3
              go_wp2_with fail
              refine hcall.out.mono ?_
              rintro e w' ⟨rfl, hb⟩
              have HB2 := Lib.hid (HBW.out.trans (hb.mono HBW.out.size))
              clear hb HBW hcall
              go_wp2
              go_roundw
              case rel => exact ⟨k + 1, _, by go_num, by omega, rfl, hS2.out, HB2.out⟩
              case measure => simp [intOf]; omega
            · have hcall := Lib.hid (write_call _ t rv _ hrg2 n1 n2 (by omega) n3)
              rw [← HEO.out k3] at hcall
              have b3 : (((t.kind : Nat) : Int) == 3) = false := by simp; omega
              obtain ⟨ra, rcap, rfl, _⟩ := hrg
              clear HEI HEO n3 hrg2 HG HT HB HBA htk HS hlen k3
              generalize escT t = ET at *
              obtain ⟨tk, tc, tn, trs⟩ := t
              simp only at c1 c2 c3 c4 n1 n2 hwtk z1 b3 hcall HBW
              go_wp2_with fail
              refine hcall.out.mono ?_
              rintro e w' ⟨rfl, hb⟩
              have HB2 := Lib.hid (HBW.out.trans (hb.mono HBW.out.size))
              clear hb HBW hcall
              go_wp2
              go_roundw
              case rel => exact ⟨k + 1, _, by go_num, by omega, rfl, hS2.out, HB2.out⟩
              case measure => simp [intOf]; omega
          · obtain rfl : k = ts.length := by omega
            have HSE : Hid (s.data.toList = escA ts) := Lib.hid (by rw [HS.out, List.take_length])
            clear HS HT HG
            go_wp2_with fail
            refine (alikeB ae _ _ _ p (escA ts) n wr (HE5.out.from HE5.out HB.out) rfl HSE.out rfl (by omega) (by omega) (by omega)).mono ?_
            rintro e w' ⟨rfl, hb⟩
            have HBF := Lib.hid (HB5.out.trans ((HB.out.trans (hb.mono HB.out.size)).mono HB5.out.size))
            rw [HQ.out]
            clear hb HB HQ
            go_wp2
            go_ret
            exact ⟨rfl, HBF.out⟩


set_option maxRecDepth 100000 in
theorem lifted (os : Os) (started : os.Started) (H : Type) (enc : TypeId × Value → H) :
    ReturnsInHanded {} Tryd.checked os 6 .any (fun w args => (Rows.fnMatchEscapedSpec.pre enc Tryd.prog Tryd.f6 Rows.fnMatchEscapedRow.domain false w args ∧ laidMetH Tryd.prog Rows.fnMatchEscapedRow.laid w) ∧ sizedMet enc Tryd.prog Tryd.f6 (OpenSpec.ofChange Rows.fnMatchEscapedSpec) false w args) (Rows.fnMatchEscapedSpec.post enc Tryd.prog Tryd.f6 false true false false) := by
  refine returnsInHanded_of_change_and (C := Tryd.checked) (X := fun w _ => laidMetH Tryd.prog Rows.fnMatchEscapedRow.laid w) (fun _ _ _ hh h => h.of_heap hh) own started (by kernel_rfl) Tryd.func6
    (ChangeSpec.witness_shaped (enc := enc) (C := Tryd.checked) (os := os) (X := fun w _ => laidMetH Tryd.prog Rows.fnMatchEscapedRow.laid w) false (World.laidAll Tryd.prog os Rows.fnMatchEscapedRow.laid) #[.slice none 0 0] 8 (World.laidAll_os _ _ _)
      (World.shaped_of_ZipB (by kernel_rfl) (by kernel_rfl)) (by kernel_rfl) (by kernel_rfl) (by kernel_rfl)
      (by rw [MakeChecks.laidMetH_plain _ _ _ (by kernel_rfl)]; exact laidMet_laidAll _ (by kernel_rfl) (by kernel_rfl))) ?_
  intro W base args ds gs before hval0 hW hcnd hsz0 hL _
  have hval : ∀ (j : Nat) t v, Tryd.f6.params[j]? = some t → args[j]? = some v → Value.okWide Tryd.prog W .any base t v := hval0
  have hW' := hW
  obtain ⟨p, q, hA0, hV, rfl, hfz, hnd⟩ := hW
  have hA : DataW.TrodAll enc Tryd.prog W 0 (fun _ => true) true Tryd.f6.params.toList args.toList ds p := hA0
  rw [Tryd.params6] at hA hval
  obtain ⟨v0, vs0, d0, ds0, p0, q0, hargs, rfl, rfl, h0, r0⟩ := trodAll_cons hA
  obtain ⟨rfl, rfl, rfl⟩ := trodAll_nil r0
  obtain rfl : args = #[v0] := by cases args; simp_all
  obtain ⟨rfl, rfl⟩ := trodVars_none hV
  obtain ⟨a0, len0, cap0, rfl⟩ := okWide_slice Tryd.underlying22 (hval 0 22 v0 rfl rfl)
  have k0 := h0
  have lt0 : ∀ x ∈ p0, x.block < W.heap.size := by obtain ⟨m, hm⟩ := k0; exact DataW.trod_lt m _ _ _ hm
  obtain ⟨z0, w0⟩ : ∃ zs, IsRow .u8 W a0 len0 cap0 zs := by
    obtain ⟨fuel, hf⟩ := h0
    rcases open_ints Tryd.underlying22 Tryd.underlying5 (by kernel_rfl) hf with ⟨hcs, _⟩ | ⟨x, l, c, zs, hcs, _, hl, hm, hz, _, hcell, hwz⟩
    · simp [Value.cells] at hcs
      obtain ⟨rfl, rfl, rfl⟩ := hcs
      exact ⟨[], .inl ⟨rfl, rfl, rfl, rfl⟩⟩
    · simp [Value.cells] at hcs
      obtain ⟨rfl, rfl, rfl⟩ := hcs
      exact ⟨zs, .inr ⟨_, rfl, hl, hm, by simpa using hz, hcell, hwz⟩⟩
  obtain ⟨ae, hE⟩ := env_of hL
  clear hA0 hval0
  refine (walk a0 len0 cap0 z0 W w0 ae hE).mono fun e W' ⟨he, bel⟩ => ?_
  subst he
  exact ⟨_, rfl, _, _, _, [], _, [], hW', trodAll_mk1 (shut_bool Tryd.underlying4 _), (trodAll_cons_mk (Below.trod laidOut (by kernel_rfl) (of_decide_eq_true (by kernel_rfl)) k0 bel lt0) trodAll_mk0), rfl, bel.frame _, fun h => by cases h⟩

theorem over : Rows.fnMatchEscapedRow.holds Tryd.pinned (OpenSpec.ofChange Rows.fnMatchEscapedSpec) :=
  OpenClaim.holds_of_wide 6 Tryd.f6 rfl rfl rfl rfl rfl rfl rfl ⟨rfl, rfl, rfl, rfl, rfl⟩ rfl rfl rfl rfl rfl (by kernel_rfl) Tryd.func6 (by kernel_rfl)
    (of_decide_eq_true (by kernel_rfl)) (by unfold Func.isWrapper; first | (rw [if_pos (by decide +kernel)]; kernel_rfl) | (rw [if_neg (by decide +kernel)]; exact ⟨rfl, rfl⟩))
    (fun os started H enc _ => lifted os started H enc)

theorem proved : Rows.FnMatchEscapedCardSaid :=
  Claim7.holds_tied_plain_at .later [] Rows.fnMatchEscapedCard.laidKinds true Rows.fnMatchEscapedCard.stood.harness true over (fun _ h => by cases h) (by kernel_rfl) (fun _ h => by cases h) fnMatchEscaped_row_tie rfl ⟨rfl, rfl⟩ (by kernel_rfl) rfl
    (fun f fn hf hfn => by
      obtain rfl : f = 6 := Option.some.inj ((show Tryd.prog.funcNamed Rows.fnMatchEscapedRow.func = some 6 by kernel_rfl).symm.trans hf) |>.symm
      obtain rfl : fn = Tryd.f6 := (Option.some.inj (Tryd.func6.symm.trans hfn)).symm
      exact ⟨by kernel_rfl, fun j t ht => by
        rw [Tryd.params6] at ht
        have hm : t ∈ [22] := by simpa using Array.mem_of_getElem? ht
        have hall : ([22].all fun u => !Tryd.prog.wantsStandIn u) = true := by kernel_rfl
        exact (show Tryd.prog.wantsStandIn t = false by simpa using List.all_eq_true.1 hall t hm)⟩)
    (by kernel_rfl)
end Go.Proofs.YtgpcnckiabjefaaDoor.fnMatchEscaped


/-
  Of decided pairs, with a star for a term that does not match a slash a pattern matches what it matched before: the law returns true for every input and leaves it as it was. Conditions: none.
  The frame round the walk is the kit's own (proof-skeleton.mjs).
-/
import Derived.Test.YtpkhcndhckocnaaDoorRows
import Derived.Test.YtpkhcndhckocnaaDoorInvW
import Derived.Test.YtpkhcndhckocnaaDoorTie
import Derived.Test.YtpkhcndhckocnaaDoorCards
import Derived.Test.YtpkhcndhckocnaaDoorLaid
import Derived.LaidMore
import Derived.Lay
import Derived.SevenTiedAt
import Derived.Stop.Joined
namespace Go.Proofs.YtpkhcndhckocnaaDoor.fnWiderStar
open Go.ChangeShapes Go.WideShapes Go.ChangeAt Go.RowKit
open Go.ChangeMaps (open_string shut_string)
set_option linter.unusedVariables false

set_option maxHeartbeats 2000000 in
theorem walk (a : Option Addr) (len cap : Nat) (zs : List Int) (w : World) (hr : IsRow .u8 w a len cap zs) (ae : Addr) (hE : Env ae w) :
    Calls Tryd.prog 14 #[.slice a len cap] w fun e w' => e = .returned (.bool true) ∧ Below w.heap.size w w' := by
  have HR := Lib.hid hr
  have HE := Lib.hid hE
  clear hr hE
  by_cases hlen : 1048576 < len
  · have hl' : (1048576 : Int) < len := by omega
    go_enter Tryd.func14, Tryd.ntmps14
    go_wp2
    go_ret
    exact ⟨rfl, Below.refl _ _⟩
  · have hl' : ¬ (1048576 : Int) < len := by omega
    go_enter Tryd.func14, Tryd.ntmps14
    go_wp2_with fail
    refine (drawMatch_any a len cap zs _ HR.out (by omega)).mono ?_
    rintro e w1 ⟨p, n, rfl, hpl, hnl, hb⟩
    have HE1 := Lib.hid (HE.out.on hb)
    have HB1 := Lib.hid hb
    clear hb HR HE
    go_wp2_with fail
    refine (yesStar ae w1 HE1.out).mono ?_
    rintro e w2 ⟨rfl, hb⟩
    have HE2 := Lib.hid (HE1.out.on hb)
    have HB2 := Lib.hid (HB1.out.trans (hb.mono HB1.out.size))
    clear hb HE1 HB1
    go_wp2_with fail
    refine (soundCB ae _ _ p n w2 HE2.out rfl rfl (by omega) (by omega)).mono ?_
    rintro e w3 ⟨rfl, hb⟩
    have HE3 := Lib.hid (HE2.out.on hb)
    have HB3 := Lib.hid (HB2.out.trans (hb.mono HB2.out.size))
    clear hb HE2 HB2
    generalize hS : soundB p n = S
    have HS := Lib.hid hS
    clear hS
    cases S with
    | false =>
      go_wp2
      go_ret
      exact ⟨rfl, HB3.out⟩
    | true =>
      go_wp2_with fail
      refine (yesB ae _ _ p n w3 HE3.out rfl rfl (by omega) (by omega)).mono ?_
      rintro e w4 ⟨rfl, hb⟩
      have HE4 := Lib.hid (HE3.out.on hb)
      have HB4 := Lib.hid (HB3.out.trans (hb.mono HB3.out.size))
      clear hb HE3 HB3
      generalize hM : mm p n = M
      have HM := Lib.hid hM
      clear hM
      cases M with
      | false =>
        go_wp2
        go_ret
        exact ⟨rfl, HB4.out⟩
      | true =>
        obtain ⟨ts, hrd, hpa, hgood, _, _⟩ := wf_terms (sound_wf HS.out)
        have hwt := read_weight' p ts hrd
        have hwl := weight_len ts
        have HG : Hid (∀ t ∈ ts, okNum t) := Lib.hid (fun t ht => good_ok (hgood t ht))
        have HRD := Lib.hid hrd
        have HQ : Hid (∀ (i : Nat) (t : Tm), ts[i]? = some t → (t.kind = 0 ∨ adm t 47 = false) → decdB (writeA (ts.take i) ++ [42] ++ writeA (ts.drop (i + 1))) n = true → mm (writeA (ts.take i) ++ [42] ++ writeA (ts.drop (i + 1))) n = true) := Lib.hid (fun i t ht hc hd => law_widerStar ⟨sound_wf HS.out, hrd⟩ HS.out HM.out ht hc hd)
        clear hrd hpa hgood HS HM
        have hfd := fld0
        go_wp2_with fail
        refine (readB _ p w4 rfl (by omega)).mono ?_
        rintro e w5 ⟨hb, va, vn, vc, rfl, hts⟩
        obtain ⟨rfl, htm⟩ := hts ts HRD.out
        have HT := Lib.hid htm
        have HE5 := Lib.hid (HE4.out.on hb)
        have HB5 := Lib.hid (HB4.out.trans (hb.mono HB4.out.size))
        generalize rdOk p = OK
        generalize rdSet p = ST
        clear hb HE4 HB4 hts htm
        clear HRD
        go_wp2
        go_loopw [33] (fun i wr => ∃ (k : Nat), i = .int .i64 (k : Nat) ∧ k ≤ ts.length ∧ Below w5.heap.size w5 wr) (fun i _ => ts.length - (intOf i).toNat)
        case atStart => exact ⟨0, rfl, by omega, Below.refl _ _⟩
        case round =>
          obtain ⟨k, rfl, hk, hb⟩ := hrel
          have HB := Lib.hid hb
          clear hb
          by_cases hkl : k < ts.length
          · obtain ⟨t, htk⟩ : ∃ t, ts[k]? = some t := ⟨_, List.getElem?_eq_getElem hkl⟩
            have hT2 := HT.out.below HB.out
            obtain ⟨a', cap', e', hcp, hcells⟩ := id hT2
            obtain ⟨g, o, rv, rfl, hlo, hlt, c1, c2, c3, c4, hrg⟩ := hcells k t htk
            injection e' with e1 e2 e3
            subst e1 e3
            clear e2 hcells
            have HT0 := Lib.hid (hT2.low (Nat.zero_le _))
            have HTA := Lib.hid ((HT0.out.take k hk))
            have HTB := Lib.hid (HT0.out.behind k hkl)
            have HOT : Hid (∀ t ∈ ts.take k, okNum t) := Lib.hid (fun t ht => HG.out t (List.mem_of_mem_take ht))
            have HOD : Hid (∀ t ∈ ts.drop (k + 1), okNum t) := Lib.hid (fun t ht => HG.out t (List.mem_of_mem_drop ht))
            have hwa := weight_take ts k
            have hwb := weight_drop ts (k + 1)
            have hla := writeA_len (ts.take k)
            have hlb := writeA_len (ts.drop (k + 1))
            obtain ⟨n1, n2, n3⟩ := HG.out t (List.mem_of_getElem? htk)
            have hwtk := weight_at' htk
            have hcall := Lib.hid (admits_call _ t rv 47 wr hrg n1 (by omega) (by omega) n3)
            have HQK := Lib.hid (HQ.out k t htk)
            have HEW := Lib.hid (HE5.out.on HB.out)
            obtain ⟨ra, rcap, rfl, _⟩ := hrg
            clear n3 hT2 htk HG HT HQ HT0
            obtain ⟨WA, hWA⟩ : ∃ WA, WA = writeA (ts.take k) := ⟨_, rfl⟩
            obtain ⟨WB, hWB⟩ : ∃ WB, WB = writeA (ts.drop (k + 1)) := ⟨_, rfl⟩
            rw [← hWA, ← hWB] at HQK
            rw [← hWA] at hla
            rw [← hWB] at hlb
            have HWA := Lib.hid hWA.symm
            have HWB := Lib.hid hWB.symm
            have hz1 : weight (ts.take k) ≤ 100000000 := by omega
            have hz2 : weight (ts.drop (k + 1)) ≤ 100000000 := by omega
            have hla2 : WA.length ≤ 11534336 := by omega
            have hlb2 : WB.length ≤ 11534336 := by omega
            have s1 : (k : Int) ≤ (vc : Int) := by omega
            have s2 : (k : Int) + 1 ≤ (ts.length : Int) := by omega
            have s3 : (ts.length : Int) ≤ (vc : Int) := by omega
            have s4 : (k : Int) < (ts.length : Int) := by omega
            clear hWA hWB hla hlb
            obtain ⟨tk, tc, tn, trs⟩ := t
            simp only at c1 c2 c3 c4 n1 n2 hwtk hcall HQK
            by_cases k0 : tk = 0
            · subst k0
              have HQF := Lib.hid (HQK.out (.inl rfl))
              have HB2 := HB
              have HE2 := HEW
              have HTA2 := HTA
              have HTB2 := HTB
              obtain ⟨w', hww⟩ : ∃ x, x = wr := ⟨_, rfl⟩
              subst hww
              clear HB HEW HTA HTB HQK hcall
              by_cases hcap : k + 1 < vc
              · have HTB3 := Lib.hid (HTB2.out.1 hcap)
                have s5 : (k : Int) + 1 < (vc : Int) := by omega
                have s6 : ¬ vc ≤ k + 1 := by omega
                have s7 : ¬ vc = k + 1 := by omega
                have s8 : ¬ k + 1 = vc := by omega
                have s9 : ¬ (vc : Int) ≤ (k : Int) + 1 := by omega
                clear HTB2
                go_upto_region 13 with (fail)
                go_cut [7] from 49 to 59 (fun q wx => ∃ s : ByteArray, q = .string s ∧ s.data.toList = WA ++ [42] ++ WB ∧ Inv ae w' wx)
                case first =>
                  have hI : Inv ae w' w' := ⟨HE2.out, Below.refl _ _⟩
                  have q1 : (⟨#[42]⟩ : ByteArray).size = 1 := rfl
                  have hwr : IntKind.i64.wrap ((k : Int) + 1) = (k : Int) + 1 := by rw [IntKind.wrap_i64]; omega
                  have hk0 : (0 : Int) ≤ (k : Int) := by omega
                  have hk2 : (0 : Int) ≤ (k : Int) + 1 := by omega
                  have hk3 : ((k : Int) + 1).toNat = k + 1 := by omega
                  have q2 : ¬ 9223372036854775807 < WA.length + 1 + WB.length := by omega
                  have q3 : WA.length + 1 + WB.length ≤ 9223372036854775807 := by omega
                  go_region_with (first | (go_at_call_of 21 (Value.slice (some (Addr.mk g o none)) k vc); refine (writeI ae w' (.slice (some ⟨g, o, none⟩) k vc) (ts.take k) HTA2.out hz1 HOT.out _ ?_).mono ?_; (· first | assumption | exact Inv.drew (by assumption)); rintro e w9 ⟨rfl, hI9⟩; rw [HWA.out]) | (go_at_call 21; refine (writeI ae w' (.slice (some ⟨g, o + (k + 1) * 4, none⟩) (ts.length - (k + 1)) (vc - (k + 1))) (ts.drop (k + 1)) HTB3.out hz2 HOD.out _ ?_).mono ?_; (· first | assumption | exact Inv.drew (by assumption)); rintro e w9 ⟨rfl, hI9⟩; rw [HWB.out]))
                  all_goals (go_wp2_with fail; go_meet; exact ⟨_, rfl, by simp, by first | assumption | exact Inv.drew (by assumption)⟩)
                case rest =>
                  obtain ⟨s, rfl, hs, hI⟩ := hcut
                  have HS2 := Lib.hid hs
                  have HE4 := Lib.hid hI.1
                  have HB4 := Lib.hid (HB2.out.trans (hI.2.mono HB2.out.size))
                  have hsl : (WA ++ [42] ++ WB : Bs).length ≤ 100000000 := by simp; omega
                  clear hs hI HTA2 HTB3 HE2 HB2
                  go_wp2_with fail
                  refine (decidedCB ae s _ (WA ++ [42] ++ WB) n _ HE4.out HS2.out rfl hsl (by omega)).mono ?_
                  rintro e w5' ⟨rfl, hb⟩
                  have HE5 := Lib.hid (HE4.out.on hb)
                  have HB5 := Lib.hid (HB4.out.trans (hb.mono HB4.out.size))
                  clear hb HE4 HB4
                  generalize hD : decdB (WA ++ [42] ++ WB) n = D
                  have HD := Lib.hid hD
                  clear hD
                  cases D with
                  | false =>
                    go_wp2
                    go_roundw
                    case rel => exact ⟨k + 1, by go_num, by omega, HB5.out⟩
                    case measure => simp [intOf]; omega
                  | true =>
                    have HM := Lib.hid (HQF.out HD.out)
                    clear HQF HD
                    go_wp2_with fail
                    refine (yesB ae s _ (WA ++ [42] ++ WB) n _ HE5.out HS2.out rfl (by omega) (by omega)).mono ?_
                    rintro e w6' ⟨rfl, hb⟩
                    have HB6 := Lib.hid (HB5.out.trans (hb.mono HB5.out.size))
                    clear hb HE5 HB5
                    rw [HM.out]
                    go_wp2
                    go_roundw
                    case rel => exact ⟨k + 1, by go_num, by omega, HB6.out⟩
                    case measure => simp [intOf]; omega
              · have HTB3 := Lib.hid (HTB2.out.2 (by omega))
                have hv1 : (k + 1 = vc) = True := eq_true (by omega)
                have hv2 : (vc = k + 1) = True := eq_true (by omega)
                have hv3 : (vc ≤ k + 1) = True := eq_true (by omega)
                have hv5 : ((k : Int) + 1 = (vc : Int)) = True := eq_true (by omega)
                have hv6 : ((vc : Int) = (k : Int) + 1) = True := eq_true (by omega)
                have q6 : vc - (k + 1) = 0 := by omega
                have q7 : ts.length - (k + 1) = 0 := by omega
                clear HTB2 hcap
                go_upto_region 13 with (fail)
                go_cut [7] from 49 to 59 (fun q wx => ∃ s : ByteArray, q = .string s ∧ s.data.toList = WA ++ [42] ++ WB ∧ Inv ae w' wx)
                case first =>
                  have hI : Inv ae w' w' := ⟨HE2.out, Below.refl _ _⟩
                  have q1 : (⟨#[42]⟩ : ByteArray).size = 1 := rfl
                  have hwr : IntKind.i64.wrap ((k : Int) + 1) = (k : Int) + 1 := by rw [IntKind.wrap_i64]; omega
                  have hk0 : (0 : Int) ≤ (k : Int) := by omega
                  have hk2 : (0 : Int) ≤ (k : Int) + 1 := by omega
                  have hk3 : ((k : Int) + 1).toNat = k + 1 := by omega
                  have q2 : ¬ 9223372036854775807 < WA.length + 1 + WB.length := by omega
                  have q3 : WA.length + 1 + WB.length ≤ 9223372036854775807 := by omega
                  go_region_with (first | (go_at_call_of 21 (Value.slice (some (Addr.mk g o none)) k vc); refine (writeI ae w' (.slice (some ⟨g, o, none⟩) k vc) (ts.take k) HTA2.out hz1 HOT.out _ ?_).mono ?_; (· first | assumption | exact Inv.drew (by assumption)); rintro e w9 ⟨rfl, hI9⟩; rw [HWA.out]) | (go_at_call 21; refine (writeI ae w' (.slice (some ⟨g, o, none⟩) 0 0) (ts.drop (k + 1)) HTB3.out hz2 HOD.out _ ?_).mono ?_; (· first | assumption | exact Inv.drew (by assumption)); rintro e w9 ⟨rfl, hI9⟩; rw [HWB.out]))
                  all_goals (go_wp2_with fail; go_meet; exact ⟨_, rfl, by simp, by first | assumption | exact Inv.drew (by assumption)⟩)
                case rest =>
                  obtain ⟨s, rfl, hs, hI⟩ := hcut
                  have HS2 := Lib.hid hs
                  have HE4 := Lib.hid hI.1
                  have HB4 := Lib.hid (HB2.out.trans (hI.2.mono HB2.out.size))
                  have hsl : (WA ++ [42] ++ WB : Bs).length ≤ 100000000 := by simp; omega
                  clear hs hI HTA2 HTB3 HE2 HB2
                  go_wp2_with fail
                  refine (decidedCB ae s _ (WA ++ [42] ++ WB) n _ HE4.out HS2.out rfl hsl (by omega)).mono ?_
                  rintro e w5' ⟨rfl, hb⟩
                  have HE5 := Lib.hid (HE4.out.on hb)
                  have HB5 := Lib.hid (HB4.out.trans (hb.mono HB4.out.size))
                  clear hb HE4 HB4
                  generalize hD : decdB (WA ++ [42] ++ WB) n = D
                  have HD := Lib.hid hD
                  clear hD
                  cases D with
                  | false =>
                    go_wp2
                    go_roundw
                    case rel => exact ⟨k + 1, by go_num, by omega, HB5.out⟩
                    case measure => simp [intOf]; omega
                  | true =>
                    have HM := Lib.hid (HQF.out HD.out)
                    clear HQF HD
                    go_wp2_with fail
                    refine (yesB ae s _ (WA ++ [42] ++ WB) n _ HE5.out HS2.out rfl (by omega) (by omega)).mono ?_
                    rintro e w6' ⟨rfl, hb⟩
                    have HB6 := Lib.hid (HB5.out.trans (hb.mono HB5.out.size))
                    clear hb HE5 HB5
                    rw [HM.out]
                    go_wp2
                    go_roundw
                    case rel => exact ⟨k + 1, by go_num, by omega, HB6.out⟩
                    case measure => simp [intOf]; omega
            · have b0 : (((tk : Nat) : Int) == 0) = false := by simp; omega
              go_wp2_with fail
              refine hcall.out.mono ?_
              rintro e w' ⟨rfl, hb⟩
              have HB2 := Lib.hid (HB.out.trans (hb.mono HB.out.size))
              have HE2 := Lib.hid (HEW.out.on hb)
              have HTA2 := Lib.hid (HTA.out.below hb)
              have HTB2 := Lib.hid (show _ ∧ _ from ⟨fun h => (HTB.out.1 h).below hb, fun h => (HTB.out.2 h).below hb⟩)
              generalize hAD : adm ⟨tk, tc, tn, trs⟩ 47 = AD at *
              clear hb HB HEW HTA HTB hcall
              cases AD with
              | true =>
                go_wp2
                go_roundw
                case rel => exact ⟨k + 1, by go_num, by omega, HB2.out⟩
                case measure => simp [intOf]; omega
              | false =>
                have HQF := Lib.hid (HQK.out (.inr rfl))
                clear HQK k0
                by_cases hcap : k + 1 < vc
                · have HTB3 := Lib.hid (HTB2.out.1 hcap)
                  have s5 : (k : Int) + 1 < (vc : Int) := by omega
                  have s6 : ¬ vc ≤ k + 1 := by omega
                  have s7 : ¬ vc = k + 1 := by omega
                  have s8 : ¬ k + 1 = vc := by omega
                  have s9 : ¬ (vc : Int) ≤ (k : Int) + 1 := by omega
                  clear HTB2
                  go_upto_region 13 with (fail)
                  go_cut [7] from 49 to 59 (fun q wx => ∃ s : ByteArray, q = .string s ∧ s.data.toList = WA ++ [42] ++ WB ∧ Inv ae w' wx)
                  case first =>
                    have hI : Inv ae w' w' := ⟨HE2.out, Below.refl _ _⟩
                    have q1 : (⟨#[42]⟩ : ByteArray).size = 1 := rfl
                    have hwr : IntKind.i64.wrap ((k : Int) + 1) = (k : Int) + 1 := by rw [IntKind.wrap_i64]; omega
                    have hk0 : (0 : Int) ≤ (k : Int) := by omega
                    have hk2 : (0 : Int) ≤ (k : Int) + 1 := by omega
                    have hk3 : ((k : Int) + 1).toNat = k + 1 := by omega
                    have q2 : ¬ 9223372036854775807 < WA.length + 1 + WB.length := by omega
                    have q3 : WA.length + 1 + WB.length ≤ 9223372036854775807 := by omega
                    go_region_with (first | (go_at_call_of 21 (Value.slice (some (Addr.mk g o none)) k vc); refine (writeI ae w' (.slice (some ⟨g, o, none⟩) k vc) (ts.take k) HTA2.out hz1 HOT.out _ ?_).mono ?_; (· first | assumption | exact Inv.drew (by assumption)); rintro e w9 ⟨rfl, hI9⟩; rw [HWA.out]) | (go_at_call 21; refine (writeI ae w' (.slice (some ⟨g, o + (k + 1) * 4, none⟩) (ts.length - (k + 1)) (vc - (k + 1))) (ts.drop (k + 1)) HTB3.out hz2 HOD.out _ ?_).mono ?_; (· first | assumption | exact Inv.drew (by assumption)); rintro e w9 ⟨rfl, hI9⟩; rw [HWB.out]))
                    all_goals (go_wp2_with fail; go_meet; exact ⟨_, rfl, by simp, by first | assumption | exact Inv.drew (by assumption)⟩)
                  case rest =>
                    obtain ⟨s, rfl, hs, hI⟩ := hcut
                    have HS2 := Lib.hid hs
                    have HE4 := Lib.hid hI.1
                    have HB4 := Lib.hid (HB2.out.trans (hI.2.mono HB2.out.size))
                    have hsl : (WA ++ [42] ++ WB : Bs).length ≤ 100000000 := by simp; omega
                    clear hs hI HTA2 HTB3 HE2 HB2
                    go_wp2_with fail
                    refine (decidedCB ae s _ (WA ++ [42] ++ WB) n _ HE4.out HS2.out rfl hsl (by omega)).mono ?_
                    rintro e w5' ⟨rfl, hb⟩
                    have HE5 := Lib.hid (HE4.out.on hb)
                    have HB5 := Lib.hid (HB4.out.trans (hb.mono HB4.out.size))
                    clear hb HE4 HB4
                    generalize hD : decdB (WA ++ [42] ++ WB) n = D
                    have HD := Lib.hid hD
                    clear hD
                    cases D with
                    | false =>
                      go_wp2
                      go_roundw
                      case rel => exact ⟨k + 1, by go_num, by omega, HB5.out⟩
                      case measure => simp [intOf]; omega
                    | true =>
                      have HM := Lib.hid (HQF.out HD.out)
                      clear HQF HD
                      go_wp2_with fail
                      refine (yesB ae s _ (WA ++ [42] ++ WB) n _ HE5.out HS2.out rfl (by omega) (by omega)).mono ?_
                      rintro e w6' ⟨rfl, hb⟩
                      have HB6 := Lib.hid (HB5.out.trans (hb.mono HB5.out.size))
                      clear hb HE5 HB5
                      rw [HM.out]
                      go_wp2
                      go_roundw
                      case rel => exact ⟨k + 1, by go_num, by omega, HB6.out⟩
                      case measure => simp [intOf]; omega
                · have HTB3 := Lib.hid (HTB2.out.2 (by omega))
                  have hv1 : (k + 1 = vc) = True := eq_true (by omega)
                  have hv2 : (vc = k + 1) = True := eq_true (by omega)
                  have hv3 : (vc ≤ k + 1) = True := eq_true (by omega)
                  have hv5 : ((k : Int) + 1 = (vc : Int)) = True := eq_true (by omega)
                  have hv6 : ((vc : Int) = (k : Int) + 1) = True := eq_true (by omega)
                  have q6 : vc - (k + 1) = 0 := by omega
                  have q7 : ts.length - (k + 1) = 0 := by omega
                  clear HTB2 hcap
                  go_upto_region 13 with (fail)
                  go_cut [7] from 49 to 59 (fun q wx => ∃ s : ByteArray, q = .string s ∧ s.data.toList = WA ++ [42] ++ WB ∧ Inv ae w' wx)
                  case first =>
                    have hI : Inv ae w' w' := ⟨HE2.out, Below.refl _ _⟩
                    have q1 : (⟨#[42]⟩ : ByteArray).size = 1 := rfl
                    have hwr : IntKind.i64.wrap ((k : Int) + 1) = (k : Int) + 1 := by rw [IntKind.wrap_i64]; omega
                    have hk0 : (0 : Int) ≤ (k : Int) := by omega
                    have hk2 : (0 : Int) ≤ (k : Int) + 1 := by omega
                    have hk3 : ((k : Int) + 1).toNat = k + 1 := by omega
                    have q2 : ¬ 9223372036854775807 < WA.length + 1 + WB.length := by omega
                    have q3 : WA.length + 1 + WB.length ≤ 9223372036854775807 := by omega
                    go_region_with (first | (go_at_call_of 21 (Value.slice (some (Addr.mk g o none)) k vc); refine (writeI ae w' (.slice (some ⟨g, o, none⟩) k vc) (ts.take k) HTA2.out hz1 HOT.out _ ?_).mono ?_; (· first | assumption | exact Inv.drew (by assumption)); rintro e w9 ⟨rfl, hI9⟩; rw [HWA.out]) | (go_at_call 21; refine (writeI ae w' (.slice (some ⟨g, o, none⟩) 0 0) (ts.drop (k + 1)) HTB3.out hz2 HOD.out _ ?_).mono ?_; (· first | assumption | exact Inv.drew (by assumption)); rintro e w9 ⟨rfl, hI9⟩; rw [HWB.out]))
                    all_goals (go_wp2_with fail; go_meet; exact ⟨_, rfl, by simp, by first | assumption | exact Inv.drew (by assumption)⟩)
                  case rest =>
                    obtain ⟨s, rfl, hs, hI⟩ := hcut
                    have HS2 := Lib.hid hs
                    have HE4 := Lib.hid hI.1
                    have HB4 := Lib.hid (HB2.out.trans (hI.2.mono HB2.out.size))
                    have hsl : (WA ++ [42] ++ WB : Bs).length ≤ 100000000 := by simp; omega
                    clear hs hI HTA2 HTB3 HE2 HB2
                    go_wp2_with fail
                    refine (decidedCB ae s _ (WA ++ [42] ++ WB) n _ HE4.out HS2.out rfl hsl (by omega)).mono ?_
                    rintro e w5' ⟨rfl, hb⟩
                    have HE5 := Lib.hid (HE4.out.on hb)
                    have HB5 := Lib.hid (HB4.out.trans (hb.mono HB4.out.size))
                    clear hb HE4 HB4
                    generalize hD : decdB (WA ++ [42] ++ WB) n = D
                    have HD := Lib.hid hD
                    clear hD
                    cases D with
                    | false =>
                      go_wp2
                      go_roundw
                      case rel => exact ⟨k + 1, by go_num, by omega, HB5.out⟩
                      case measure => simp [intOf]; omega
                    | true =>
                      have HM := Lib.hid (HQF.out HD.out)
                      clear HQF HD
                      go_wp2_with fail
                      refine (yesB ae s _ (WA ++ [42] ++ WB) n _ HE5.out HS2.out rfl (by omega) (by omega)).mono ?_
                      rintro e w6' ⟨rfl, hb⟩
                      have HB6 := Lib.hid (HB5.out.trans (hb.mono HB5.out.size))
                      clear hb HE5 HB5
                      rw [HM.out]
                      go_wp2
                      go_roundw
                      case rel => exact ⟨k + 1, by go_num, by omega, HB6.out⟩
                      case measure => simp [intOf]; omega
          · obtain rfl : k = ts.length := by omega
            have HBF := Lib.hid (HB5.out.trans (HB.out.mono HB5.out.size))
            clear HB HT HG HQ
            go_wp2
            go_ret
            exact ⟨rfl, HBF.out⟩


set_option maxRecDepth 100000 in
theorem lifted (os : Os) (started : os.Started) (H : Type) (enc : TypeId × Value → H) :
    ReturnsInHanded {} Tryd.checked os 14 .any (fun w args => (Rows.fnWiderStarSpec.pre enc Tryd.prog Tryd.f14 Rows.fnWiderStarRow.domain false w args ∧ laidMetH Tryd.prog Rows.fnWiderStarRow.laid w) ∧ sizedMet enc Tryd.prog Tryd.f14 (OpenSpec.ofChange Rows.fnWiderStarSpec) false w args) (Rows.fnWiderStarSpec.post enc Tryd.prog Tryd.f14 false true false false) := by
  refine returnsInHanded_of_change_and (C := Tryd.checked) (X := fun w _ => laidMetH Tryd.prog Rows.fnWiderStarRow.laid w) (fun _ _ _ hh h => h.of_heap hh) own started (by kernel_rfl) Tryd.func14
    (ChangeSpec.witness_shaped (enc := enc) (C := Tryd.checked) (os := os) (X := fun w _ => laidMetH Tryd.prog Rows.fnWiderStarRow.laid w) false (World.laidAll Tryd.prog os Rows.fnWiderStarRow.laid) #[.slice none 0 0] 8 (World.laidAll_os _ _ _)
      (World.shaped_of_ZipB (by kernel_rfl) (by kernel_rfl)) (by kernel_rfl) (by kernel_rfl) (by kernel_rfl)
      (by rw [MakeChecks.laidMetH_plain _ _ _ (by kernel_rfl)]; exact laidMet_laidAll _ (by kernel_rfl) (by kernel_rfl))) ?_
  intro W base args ds gs before hval0 hW hcnd hsz0 hL _
  have hval : ∀ (j : Nat) t v, Tryd.f14.params[j]? = some t → args[j]? = some v → Value.okWide Tryd.prog W .any base t v := hval0
  have hW' := hW
  obtain ⟨p, q, hA0, hV, rfl, hfz, hnd⟩ := hW
  have hA : DataW.TrodAll enc Tryd.prog W 0 (fun _ => true) true Tryd.f14.params.toList args.toList ds p := hA0
  rw [Tryd.params14] at hA hval
  obtain ⟨v0, vs0, d0, ds0, p0, q0, hargs, rfl, rfl, h0, r0⟩ := trodAll_cons hA
  obtain ⟨rfl, rfl, rfl⟩ := trodAll_nil r0
  obtain rfl : args = #[v0] := by cases args; simp_all
  obtain ⟨rfl, rfl⟩ := trodVars_none hV
  obtain ⟨a0, len0, cap0, rfl⟩ := okWide_slice Tryd.underlying22 (hval 0 22 v0 rfl rfl)
  have k0 := h0
  have lt0 : ∀ x ∈ p0, x.block < W.heap.size := by obtain ⟨m, hm⟩ := k0; exact DataW.trod_lt m _ _ _ hm
  obtain ⟨z0, w0⟩ : ∃ zs, IsRow .u8 W a0 len0 cap0 zs := by
    obtain ⟨fuel, hf⟩ := h0
    rcases open_ints Tryd.underlying22 Tryd.underlying5 (by kernel_rfl) hf with ⟨hcs, _⟩ | ⟨x, l, c, zs, hcs, _, hl, hm, hz, _, hcell, hwz⟩
    · simp [Value.cells] at hcs
      obtain ⟨rfl, rfl, rfl⟩ := hcs
      exact ⟨[], .inl ⟨rfl, rfl, rfl, rfl⟩⟩
    · simp [Value.cells] at hcs
      obtain ⟨rfl, rfl, rfl⟩ := hcs
      exact ⟨zs, .inr ⟨_, rfl, hl, hm, by simpa using hz, hcell, hwz⟩⟩
  obtain ⟨ae, hE⟩ := env_of hL
  clear hA0 hval0
  refine (walk a0 len0 cap0 z0 W w0 ae hE).mono fun e W' ⟨he, bel⟩ => ?_
  subst he
  exact ⟨_, rfl, _, _, _, [], _, [], hW', trodAll_mk1 (shut_bool Tryd.underlying4 _), (trodAll_cons_mk (Below.trod laidOut (by kernel_rfl) (of_decide_eq_true (by kernel_rfl)) k0 bel lt0) trodAll_mk0), rfl, bel.frame _, fun h => by cases h⟩

theorem over : Rows.fnWiderStarRow.holds Tryd.pinned (OpenSpec.ofChange Rows.fnWiderStarSpec) :=
  OpenClaim.holds_of_wide 14 Tryd.f14 rfl rfl rfl rfl rfl rfl rfl ⟨rfl, rfl, rfl, rfl, rfl⟩ rfl rfl rfl rfl rfl (by kernel_rfl) Tryd.func14 (by kernel_rfl)
    (of_decide_eq_true (by kernel_rfl)) (by unfold Func.isWrapper; first | (rw [if_pos (by decide +kernel)]; kernel_rfl) | (rw [if_neg (by decide +kernel)]; exact ⟨rfl, rfl⟩))
    (fun os started H enc _ => lifted os started H enc)

theorem proved : Rows.FnWiderStarCardSaid :=
  Claim7.holds_tied_plain_at .later [] Rows.fnWiderStarCard.laidKinds true Rows.fnWiderStarCard.stood.harness true over (fun _ h => by cases h) (by kernel_rfl) (fun _ h => by cases h) fnWiderStar_row_tie rfl ⟨rfl, rfl⟩ (by kernel_rfl) rfl
    (fun f fn hf hfn => by
      obtain rfl : f = 14 := Option.some.inj ((show Tryd.prog.funcNamed Rows.fnWiderStarRow.func = some 14 by kernel_rfl).symm.trans hf) |>.symm
      obtain rfl : fn = Tryd.f14 := (Option.some.inj (Tryd.func14.symm.trans hfn)).symm
      exact ⟨by kernel_rfl, fun j t ht => by
        rw [Tryd.params14] at ht
        have hm : t ∈ [22] := by simpa using Array.mem_of_getElem? ht
        have hall : ([22].all fun u => !Tryd.prog.wantsStandIn u) = true := by kernel_rfl
        exact (show Tryd.prog.wantsStandIn t = false by simpa using List.all_eq_true.1 hall t hm)⟩)
    (by kernel_rfl)
end Go.Proofs.YtpkhcndhckocnaaDoor.fnWiderStar


/-
  Texts without slashes between stars match exactly the names without a slash in which they follow each other: the law returns true for every input and leaves it as it was. Conditions: none.
  The frame round the walk is the kit's own (proof-skeleton.mjs).
-/
import Derived.Test.YtpkhcndhckocnaaDoorRows
import Derived.Test.YtpkhcndhckocnaaDoorOrdC
import Derived.Test.YtpkhcndhckocnaaDoorTie
import Derived.Test.YtpkhcndhckocnaaDoorCards
import Derived.Test.YtpkhcndhckocnaaDoorLaid
import Derived.LaidMore
import Derived.Lay
import Derived.SevenTiedAt
import Derived.Stop.Joined
namespace Go.Proofs.YtpkhcndhckocnaaDoor.fnStarOrder
open Go.ChangeShapes Go.WideShapes Go.ChangeAt Go.RowKit
open Go.ChangeMaps (open_string shut_string)
set_option linter.unusedVariables false

set_option maxHeartbeats 2000000 in
theorem walk (a : Option Addr) (len cap : Nat) (zs : List Int) (w : World) (hr : IsRow .u8 w a len cap zs) (ae : Addr) (hE : Env ae w) (hM : MaxAt w) :
    Calls Tryd.prog 10 #[.slice a len cap] w fun e w' => e = .returned (.bool true) ∧ Below w.heap.size w w' := by
  have HR := Lib.hid hr
  have HE := Lib.hid hE
  have HX := Lib.hid hM
  clear hM
  clear hr hE
  by_cases hlen : 1048576 < len
  · have hl' : (1048576 : Int) < len := by omega
    go_enter Tryd.func10, Tryd.ntmps10
    go_wp2
    go_ret
    exact ⟨rfl, Below.refl _ _⟩
  · have hl' : ¬ (1048576 : Int) < len := by omega
    go_enter Tryd.func10, Tryd.ntmps10
    go_wp2_with fail
    refine (drawParts_any a len cap zs _ HR.out (by omega)).mono ?_
    rintro e w1 ⟨pv, ss, rfl, hS, htot, hb⟩
    have HS := Lib.hid hS.rd
    obtain ⟨sg, scap, rfl, _⟩ := hS.rd
    have HE1 := Lib.hid (HE.out.on hb)
    have HB1 := Lib.hid hb
    have htl := letters_tot ss
    clear hb HR HE hS

    go_wp2
    go_loopw [4, 5, 16] (fun pv nv i wr => ∃ (k : Nat) (P N : ByteArray), i = .int .i64 (k : Nat) ∧ k ≤ ss.length ∧ pv = .string P ∧ nv = .string N ∧ P.data.toList = ordP (bsOf (ss.take k)) ∧ (∀ s ∈ bsOf (ss.take k), Lib.validD s = true) ∧ 47 ∉ N.data.toList ∧ N.size ≤ letters (ss.take k) ∧ P.size ≤ 5 * letters (ss.take k) + k + 1 ∧ Below w1.heap.size w1 wr) (fun _ _ i _ => ss.length - (intOf i).toNat)
    case atStart => exact ⟨0, ⟨#[42]⟩, ByteArray.empty, rfl, by omega, rfl, rfl, rfl, by simp [bsOf], by simp, by simp, by (show 1 ≤ _; omega), Below.refl _ _⟩
    case round =>
      obtain ⟨k, P, N, rfl, hk, rfl, rfl, hF, hV, h47, hN, hP, hb⟩ := hrel
      have HF := Lib.hid hF
      have HV := Lib.hid hV
      have H7 := Lib.hid h47
      have HB := Lib.hid hb
      have hlt := letters_take ss k
      clear hF hV h47 hb
      by_cases hkl : k < ss.length
      · obtain ⟨s, hs⟩ : ∃ s, ss[k]? = some s := ⟨_, List.getElem?_eq_getElem hkl⟩
        obtain ⟨g', c', e', hg', hcs⟩ := HS.out.below HB.out
        injection e' with e1 e2 e3
        injection e1 with e1
        injection e1 with e1
        subst e1
        have hcell := hcs k s hs
        have htk : ss.take (k + 1) = ss.take k ++ [s] := by rw [List.take_add_one, hs]; rfl
        have hls : letters (ss.take (k + 1)) = letters (ss.take k) + s.size := by rw [htk]; exact letters_snoc _ _
        have hlt2 := letters_take ss (k + 1)
        have HE2 := Lib.hid (HE1.out.on HB.out)
        have hsl : s.data.toList.length = s.size := rfl
        clear hcs e2 e3 hs
        go_wp2_with fail
        refine (validB ae s s.data.toList wr HE2.out rfl (by omega)).mono ?_
        rintro e w2 ⟨rfl, hb⟩
        have HB3 := Lib.hid (HB.out.trans (hb.mono HB.out.size))
        clear hb HE2 HB
        generalize hA : Lib.validD s.data.toList = A
        have HA := Lib.hid hA
        clear hA
        cases A with
        | false =>
          have HBF := Lib.hid (HB1.out.trans (HB3.out.mono HB1.out.size))
          clear HB3 HB1 HF HV H7
          go_wp2
          go_ret
          exact ⟨rfl, HBF.out⟩
        | true =>
          go_wp2_with fail
          refine (slashB s s.data.toList w2 rfl).mono ?_
          rintro e w3 ⟨rfl, hb⟩
          have HB4 := Lib.hid (HB3.out.trans (hb.mono HB3.out.size))
          clear hb HB3
          generalize hC : s.data.toList.contains 47 = C
          have HC := Lib.hid hC
          clear hC
          cases C with
          | true =>
            have HBF := Lib.hid (HB1.out.trans (HB4.out.mono HB1.out.size))
            clear HB4 HB1 HF HV H7
            go_wp2
            go_ret
            exact ⟨rfl, HBF.out⟩
          | false =>
            have hql := quoteB_len s.data.toList
            have HFM : Hid ((P ++ ⟨(quoteB s.data.toList).toArray⟩ ++ ⟨#[42]⟩ : ByteArray).data.toList = ordP (bsOf (ss.take (k + 1)))) := Lib.hid (by rw [htk, bsOf_snoc, ordP_snoc, ba_app, ba_app, HF.out])
            have HVM : Hid (∀ x ∈ bsOf (ss.take (k + 1)), Lib.validD x = true) := Lib.hid (by
              intro x hx
              rw [htk, bsOf_snoc] at hx
              rcases List.mem_append.1 hx with h | h
              · exact HV.out x h
              · rw [List.mem_singleton.1 h]; exact HA.out)
            have H7M : Hid (47 ∉ (s ++ N : ByteArray).data.toList) := Lib.hid (by
              rw [ba_app]
              intro h
              rcases List.mem_append.1 h with h | h
              · have := HC.out; rw [List.contains_iff_mem.2 h] at this; cases this
              · exact H7.out h)
            clear HF HV H7 HA HC htk
            go_wp2_with fail
            refine (quoteCB _ s.data.toList w3 rfl (by omega)).mono ?_
            rintro e w4 ⟨rfl, hb⟩
            have HB5 := Lib.hid (HB4.out.trans (hb.mono HB4.out.size))
            have hz : (⟨(quoteB s.data.toList).toArray⟩ : ByteArray).size ≤ 5 * s.size := hql
            clear hb HB4
            go_wp2
            go_roundw
            case rel => exact ⟨k + 1, P ++ ⟨(quoteB s.data.toList).toArray⟩ ++ ⟨#[42]⟩, s ++ N, by go_num, by omega, rfl, rfl, HFM.out, HVM.out, H7M.out, by simp; omega, by (have h1 : (⟨#[42]⟩ : ByteArray).size = 1 := rfl; simp only [ByteArray.size_append]; omega), HB5.out⟩
            case measure => simp [intOf]; omega
      · obtain rfl : k = ss.length := by omega
        rw [List.take_length] at HF HV hN hP
        have HE2 := Lib.hid (HE1.out.on HB.out)
        have HBX := Lib.hid (HB1.out.trans (HB.out.mono HB1.out.size))
        have HL1 := Lib.hid (law_starOrder HV.out H7.out)
        have H72 : Hid (47 ∉ (N ++ N : ByteArray).data.toList) := Lib.hid (by
          rw [ba_app]
          intro h
          rcases List.mem_append.1 h with h | h <;> exact H7.out h)
        have HL2 := Lib.hid (law_starOrder HV.out H72.out)
        have hPl : P.data.toList.length = P.size := rfl
        have hPe : (ordP (bsOf ss)).length = P.size := by rw [← HF.out]; rfl
        have hNl : N.data.toList.length = N.size := rfl
        have hNN : (N ++ N : ByteArray).data.toList.length = N.size + N.size := by rw [ba_app, List.length_append]; rfl
        have hNs : (N ++ N : ByteArray).size = N.size + N.size := by simp
        obtain ⟨A1, hA1⟩ : ∃ A1, A1 = inOrd (bsOf ss) N.data.toList := ⟨_, rfl⟩
        obtain ⟨A2, hA2⟩ : ∃ A2, A2 = inOrd (bsOf ss) (N ++ N : ByteArray).data.toList := ⟨_, rfl⟩
        rw [← hA1] at HL1
        rw [← hA2] at HL2
        have HA1 := Lib.hid hA1.symm
        have HA2 := Lib.hid hA2.symm
        clear hA1 hA2
        have HS2 := Lib.hid (HS.out.below HB.out)
        clear HV H7 H72 HB HB1 HE1 HS
        have HPF := HF
        clear HF
        go_wp2_with fail
        refine (yesB ae P N (ordP (bsOf ss)) N.data.toList wr HE2.out HPF.out rfl (by omega) (by omega)).mono ?_
        rintro e w5 ⟨rfl, hb⟩
        rw [HL1.out]
        have HE3 := Lib.hid (HE2.out.on hb)
        have HB3 := Lib.hid (HBX.out.trans (hb.mono HBX.out.size))
        have HS3 := Lib.hid (HS2.out.below hb)
        clear hb HE2 HBX HS2 HL1
        go_wp2_with fail
        refine (inOrder_call _ ss N w5 (HX.out.on HB3.out) HS3.out (by omega) (by omega) (by omega)).mono ?_
        rintro e w6 ⟨rfl, hb⟩
        have HE4 := Lib.hid (HE3.out.on hb)
        have HB4 := Lib.hid (HB3.out.trans (hb.mono HB3.out.size))
        have HS4 := Lib.hid (HS3.out.below hb)
        clear hb HE3 HB3 HS3
        rw [HA1.out]
        clear HA1
        cases A1
        all_goals
          go_wp2_with fail
          refine (yesB ae P (N ++ N) (ordP (bsOf ss)) (N ++ N : ByteArray).data.toList w6 HE4.out HPF.out rfl (by omega) (by omega)).mono ?_
          rintro e w7 ⟨rfl, hb⟩
          rw [HL2.out]
          have HB5 := Lib.hid (HB4.out.trans (hb.mono HB4.out.size))
          have HS5 := Lib.hid (HS4.out.below hb)
          clear hb HE4 HB4 HS4 HL2
          go_wp2_with fail
          refine (inOrder_call _ ss (N ++ N) w7 (HX.out.on HB5.out) HS5.out (by omega) (by omega) (by omega)).mono ?_
          rintro e w8 ⟨rfl, hb⟩
          have HB6 := Lib.hid (HB5.out.trans (hb.mono HB5.out.size))
          clear hb HB5 HS5
          rw [HA2.out]
          clear HA2
          cases A2
          all_goals
            go_wp2
            go_ret
            exact ⟨rfl, HB6.out⟩


set_option maxRecDepth 100000 in
theorem lifted (os : Os) (started : os.Started) (H : Type) (enc : TypeId × Value → H) :
    ReturnsInHanded {} Tryd.checked os 10 .any (fun w args => (Rows.fnStarOrderSpec.pre enc Tryd.prog Tryd.f10 Rows.fnStarOrderRow.domain false w args ∧ laidMetH Tryd.prog Rows.fnStarOrderRow.laid w) ∧ sizedMet enc Tryd.prog Tryd.f10 (OpenSpec.ofChange Rows.fnStarOrderSpec) false w args) (Rows.fnStarOrderSpec.post enc Tryd.prog Tryd.f10 false true false false) := by
  refine handed_shaped (C := Tryd.checked) (X := fun w _ => laidMetH Tryd.prog Rows.fnStarOrderRow.laid w) (fun _ _ _ hh h => h.of_heap hh) own started (by kernel_rfl) Tryd.func10
    (ChangeSpec.witness_shaped (enc := enc) (C := Tryd.checked) (os := os) (X := fun w _ => laidMetH Tryd.prog Rows.fnStarOrderRow.laid w) false (World.laidAll Tryd.prog os Rows.fnStarOrderRow.laid) #[.slice none 0 0] 8 (World.laidAll_os _ _ _)
      (World.shaped_of_ZipB (by kernel_rfl) (by kernel_rfl)) (by kernel_rfl) (by kernel_rfl) (by kernel_rfl)
      (by rw [MakeChecks.laidMetH_plain _ _ _ (by kernel_rfl)]; exact laidMet_laidAll _ (by kernel_rfl) (by kernel_rfl))) ?_
  intro W base args ds gs before hval0 hW hcnd hsz0 hL hsh _
  have hval : ∀ (j : Nat) t v, Tryd.f10.params[j]? = some t → args[j]? = some v → Value.okWide Tryd.prog W .any base t v := hval0
  have hW' := hW
  obtain ⟨p, q, hA0, hV, rfl, hfz, hnd⟩ := hW
  have hA : DataW.TrodAll enc Tryd.prog W 0 (fun _ => true) true Tryd.f10.params.toList args.toList ds p := hA0
  rw [Tryd.params10] at hA hval
  obtain ⟨v0, vs0, d0, ds0, p0, q0, hargs, rfl, rfl, h0, r0⟩ := trodAll_cons hA
  obtain ⟨rfl, rfl, rfl⟩ := trodAll_nil r0
  obtain rfl : args = #[v0] := by cases args; simp_all
  obtain ⟨rfl, rfl⟩ := trodVars_none hV
  obtain ⟨a0, len0, cap0, rfl⟩ := okWide_slice Tryd.underlying22 (hval 0 22 v0 rfl rfl)
  have k0 := h0
  have lt0 : ∀ x ∈ p0, x.block < W.heap.size := by obtain ⟨m, hm⟩ := k0; exact DataW.trod_lt m _ _ _ hm
  obtain ⟨z0, w0⟩ : ∃ zs, IsRow .u8 W a0 len0 cap0 zs := by
    obtain ⟨fuel, hf⟩ := h0
    rcases open_ints Tryd.underlying22 Tryd.underlying5 (by kernel_rfl) hf with ⟨hcs, _⟩ | ⟨x, l, c, zs, hcs, _, hl, hm, hz, _, hcell, hwz⟩
    · simp [Value.cells] at hcs
      obtain ⟨rfl, rfl, rfl⟩ := hcs
      exact ⟨[], .inl ⟨rfl, rfl, rfl, rfl⟩⟩
    · simp [Value.cells] at hcs
      obtain ⟨rfl, rfl, rfl⟩ := hcs
      exact ⟨zs, .inr ⟨_, rfl, hl, hm, by simpa using hz, hcell, hwz⟩⟩
  obtain ⟨ae, hE⟩ := env_of hL
  have hM := max_of hsh
  clear hA0 hval0
  refine (walk a0 len0 cap0 z0 W w0 ae hE hM).mono fun e W' ⟨he, bel⟩ => ?_
  subst he
  exact ⟨_, rfl, _, _, _, [], _, [], hW', trodAll_mk1 (shut_bool Tryd.underlying4 _), (trodAll_cons_mk (Below.trod laidOut (by kernel_rfl) (of_decide_eq_true (by kernel_rfl)) k0 bel lt0) trodAll_mk0), rfl, bel.frame _, fun h => by cases h⟩

theorem over : Rows.fnStarOrderRow.holds Tryd.pinned (OpenSpec.ofChange Rows.fnStarOrderSpec) :=
  OpenClaim.holds_of_wide 10 Tryd.f10 rfl rfl rfl rfl rfl rfl rfl ⟨rfl, rfl, rfl, rfl, rfl⟩ rfl rfl rfl rfl rfl (by kernel_rfl) Tryd.func10 (by kernel_rfl)
    (of_decide_eq_true (by kernel_rfl)) (by unfold Func.isWrapper; first | (rw [if_pos (by decide +kernel)]; kernel_rfl) | (rw [if_neg (by decide +kernel)]; exact ⟨rfl, rfl⟩))
    (fun os started H enc _ => lifted os started H enc)

theorem proved : Rows.FnStarOrderCardSaid :=
  Claim7.holds_tied_plain_at .later [] Rows.fnStarOrderCard.laidKinds true Rows.fnStarOrderCard.stood.harness true over (fun _ h => by cases h) (by kernel_rfl) (fun _ h => by cases h) fnStarOrder_row_tie rfl ⟨rfl, rfl⟩ (by kernel_rfl) rfl
    (fun f fn hf hfn => by
      obtain rfl : f = 10 := Option.some.inj ((show Tryd.prog.funcNamed Rows.fnStarOrderRow.func = some 10 by kernel_rfl).symm.trans hf) |>.symm
      obtain rfl : fn = Tryd.f10 := (Option.some.inj (Tryd.func10.symm.trans hfn)).symm
      exact ⟨by kernel_rfl, fun j t ht => by
        rw [Tryd.params10] at ht
        have hm : t ∈ [22] := by simpa using Array.mem_of_getElem? ht
        have hall : ([22].all fun u => !Tryd.prog.wantsStandIn u) = true := by kernel_rfl
        exact (show Tryd.prog.wantsStandIn t = false by simpa using List.all_eq_true.1 hall t hm)⟩)
    (by kernel_rfl)
end Go.Proofs.YtpkhcndhckocnaaDoor.fnStarOrder


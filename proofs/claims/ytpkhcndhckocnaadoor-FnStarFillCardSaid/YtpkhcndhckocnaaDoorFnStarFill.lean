/-
  Texts with stars between them match the same texts with any texts without slashes between them: the law returns true for every input and leaves it as it was. Conditions: none.
  The frame round the walk is the kit's own (proof-skeleton.mjs).
-/
import Derived.Test.YtpkhcndhckocnaaDoorRows
import Derived.Test.YtpkhcndhckocnaaDoorLawG
import Derived.Test.YtpkhcndhckocnaaDoorDrawP
import Derived.Test.YtpkhcndhckocnaaDoorTie
import Derived.Test.YtpkhcndhckocnaaDoorCards
import Derived.Test.YtpkhcndhckocnaaDoorLaid
import Derived.LaidMore
import Derived.Lay
import Derived.SevenTiedAt
import Derived.Stop.Joined
namespace Go.Proofs.YtpkhcndhckocnaaDoor.fnStarFill
open Go.ChangeShapes Go.WideShapes Go.ChangeAt Go.RowKit
open Go.ChangeMaps (open_string shut_string)
set_option linter.unusedVariables false

set_option maxHeartbeats 2000000 in
theorem walk (a : Option Addr) (len cap : Nat) (zs : List Int) (w : World) (hr : IsRow .u8 w a len cap zs) (ae : Addr) (hE : Env ae w) :
    Calls Tryd.prog 9 #[.slice a len cap] w fun e w' => e = .returned (.bool true) ∧ Below w.heap.size w w' := by
  have HR := Lib.hid hr
  have HE := Lib.hid hE
  clear hr hE
  by_cases hlen : 1048576 < len
  · have hl' : (1048576 : Int) < len := by omega
    go_enter Tryd.func9, Tryd.ntmps9
    go_wp2
    go_ret
    exact ⟨rfl, Below.refl _ _⟩
  · have hl' : ¬ (1048576 : Int) < len := by omega
    go_enter Tryd.func9, Tryd.ntmps9
    go_wp2_with fail
    refine (drawParts_any a len cap zs _ HR.out (by omega)).mono ?_
    rintro e w1 ⟨pv, ss, rfl, hS, htot, hb⟩
    have HS := Lib.hid hS.rd
    obtain ⟨sg, scap, rfl, _⟩ := hS.rd
    have HE1 := Lib.hid (HE.out.on hb)
    have HB1 := Lib.hid hb
    have htl := letters_tot ss
    clear hb HR HE hS

    go_wp2
    go_loopw [4, 5, 15] (fun pv nv i wr => ∃ (k : Nat) (P N : ByteArray), i = .int .i64 (k : Nat) ∧ k ≤ ss.length ∧ pv = .string P ∧ nv = .string N ∧ Fill P.data.toList N.data.toList ∧ N.size ≤ letters (ss.take k) ∧ P.size ≤ 5 * letters (ss.take k) + k ∧ Below w1.heap.size w1 wr) (fun _ _ i _ => ss.length - (intOf i).toNat)
    case atStart => exact ⟨0, ByteArray.empty, ByteArray.empty, rfl, by omega, rfl, rfl, fill_nil, by simp, by simp, Below.refl _ _⟩
    case round =>
      obtain ⟨k, P, N, rfl, hk, rfl, rfl, hF, hN, hP, hb⟩ := hrel
      have HF := Lib.hid hF
      have HB := Lib.hid hb
      have hlt := letters_take ss k
      clear hF hb
      by_cases hkl : k < ss.length
      · obtain ⟨s, hs⟩ : ∃ s, ss[k]? = some s := ⟨_, List.getElem?_eq_getElem hkl⟩
        obtain ⟨g', c', e', hg', hcs⟩ := HS.out.below HB.out
        injection e' with e1 e2 e3
        injection e1 with e1
        injection e1 with e1
        subst e1
        have hcell := hcs k s hs
        have hls : letters (ss.take (k + 1)) = letters (ss.take k) + s.size := by rw [List.take_add_one, hs]; exact letters_snoc _ _
        have hlt2 := letters_take ss (k + 1)
        have HE2 := Lib.hid (HE1.out.on HB.out)
        have hsl : s.data.toList.length = s.size := rfl
        clear hcs e2 e3 hs
        go_wp2_with fail
        refine (validB ae s s.data.toList wr HE2.out rfl (by omega)).mono ?_
        rintro e w2 ⟨rfl, hb⟩
        have HE3 := Lib.hid (HE2.out.on hb)
        have HB3 := Lib.hid (HB.out.trans (hb.mono HB.out.size))
        clear hb HE2 HB
        generalize hV : Lib.validD s.data.toList = V
        have HV := Lib.hid hV
        clear hV
        cases V with
        | false =>
          have HBF := Lib.hid (HB1.out.trans (HB3.out.mono HB1.out.size))
          clear HB3 HB1 HF
          go_wp2
          go_ret
          exact ⟨rfl, HBF.out⟩
        | true =>
          obtain ⟨q, hq⟩ : ∃ q, k = 2 * q ∨ k = 2 * q + 1 := ⟨k / 2, by omega⟩
          rcases hq with hq | hq
          · have hm : (k : Int).tmod 2 = 0 := by rw [Int.tmod_eq_emod_of_nonneg (by omega)]; omega
            clear hq
            have hql := quoteB_len s.data.toList
            have HFN := Lib.hid (HF.out.text HV.out)
            clear HF HV
            go_wp2_with fail
            refine (quoteCB _ s.data.toList w2 rfl (by omega)).mono ?_
            rintro e w3 ⟨rfl, hb⟩
            have HB4 := Lib.hid (HB3.out.trans (hb.mono HB3.out.size))
            have HFM : Hid (Fill (P ++ ⟨(quoteB s.data.toList).toArray⟩ : ByteArray).data.toList (N ++ s).data.toList) := Lib.hid (by rw [ba_app, ba_app]; exact HFN.out)
            have hz : (⟨(quoteB s.data.toList).toArray⟩ : ByteArray).size ≤ 5 * s.size := hql
            clear hb HFN HB3
            go_wp2
            go_roundw
            case rel => exact ⟨k + 1, P ++ ⟨(quoteB s.data.toList).toArray⟩, N ++ s, by go_num, by omega, rfl, rfl, HFM.out, by simp; omega, by simp; omega, HB4.out⟩
            case measure => simp [intOf]; omega
          · have hm : (k : Int).tmod 2 = 1 := by rw [Int.tmod_eq_emod_of_nonneg (by omega)]; omega
            clear hq
            go_wp2_with fail
            refine (slashB s s.data.toList w2 rfl).mono ?_
            rintro e w3 ⟨rfl, hb⟩
            have HB4 := Lib.hid (HB3.out.trans (hb.mono HB3.out.size))
            clear hb HB3
            generalize hC : s.data.toList.contains 47 = C
            have HC := Lib.hid hC
            clear hC
            cases C with
            | true =>
              have HBF := Lib.hid (HB1.out.trans (HB4.out.mono HB1.out.size))
              clear HB4 HB1 HF
              go_wp2
              go_ret
              exact ⟨rfl, HBF.out⟩
            | false =>
              have HFM : Hid (Fill (P ++ ⟨#[42]⟩ : ByteArray).data.toList (N ++ s).data.toList) := Lib.hid (by rw [ba_app, ba_app]; exact HF.out.star HV.out HC.out)
              clear HF HV HC
              go_wp2
              go_roundw
              case rel => exact ⟨k + 1, P ++ ⟨#[42]⟩, N ++ s, by go_num, by omega, rfl, rfl, HFM.out, by simp; omega, by (have h1 : (⟨#[42]⟩ : ByteArray).size = 1 := rfl; simp only [ByteArray.size_append]; omega), HB4.out⟩
              case measure => simp [intOf]; omega
      · obtain rfl : k = ss.length := by omega
        have HE2 := Lib.hid (HE1.out.on HB.out)
        have HM := Lib.hid (law_starFill HF.out)
        have hPl : P.data.toList.length = P.size := rfl
        have hNl : N.data.toList.length = N.size := rfl
        clear HF HS
        go_wp2_with fail
        refine (yesB ae P N P.data.toList N.data.toList wr HE2.out rfl rfl (by omega) (by omega)).mono ?_
        rintro e w' ⟨rfl, hb⟩
        have HBF := Lib.hid (HB1.out.trans ((HB.out.trans (hb.mono HB.out.size)).mono HB1.out.size))
        rw [HM.out]
        clear hb HB HM
        go_wp2
        go_ret
        exact ⟨rfl, HBF.out⟩


set_option maxRecDepth 100000 in
theorem lifted (os : Os) (started : os.Started) (H : Type) (enc : TypeId × Value → H) :
    ReturnsInHanded {} Tryd.checked os 9 .any (fun w args => (Rows.fnStarFillSpec.pre enc Tryd.prog Tryd.f9 Rows.fnStarFillRow.domain false w args ∧ laidMetH Tryd.prog Rows.fnStarFillRow.laid w) ∧ sizedMet enc Tryd.prog Tryd.f9 (OpenSpec.ofChange Rows.fnStarFillSpec) false w args) (Rows.fnStarFillSpec.post enc Tryd.prog Tryd.f9 false true false false) := by
  refine returnsInHanded_of_change_and (C := Tryd.checked) (X := fun w _ => laidMetH Tryd.prog Rows.fnStarFillRow.laid w) (fun _ _ _ hh h => h.of_heap hh) own started (by kernel_rfl) Tryd.func9
    (ChangeSpec.witness_shaped (enc := enc) (C := Tryd.checked) (os := os) (X := fun w _ => laidMetH Tryd.prog Rows.fnStarFillRow.laid w) false (World.laidAll Tryd.prog os Rows.fnStarFillRow.laid) #[.slice none 0 0] 8 (World.laidAll_os _ _ _)
      (World.shaped_of_ZipB (by kernel_rfl) (by kernel_rfl)) (by kernel_rfl) (by kernel_rfl) (by kernel_rfl)
      (by rw [MakeChecks.laidMetH_plain _ _ _ (by kernel_rfl)]; exact laidMet_laidAll _ (by kernel_rfl) (by kernel_rfl))) ?_
  intro W base args ds gs before hval0 hW hcnd hsz0 hL _
  have hval : ∀ (j : Nat) t v, Tryd.f9.params[j]? = some t → args[j]? = some v → Value.okWide Tryd.prog W .any base t v := hval0
  have hW' := hW
  obtain ⟨p, q, hA0, hV, rfl, hfz, hnd⟩ := hW
  have hA : DataW.TrodAll enc Tryd.prog W 0 (fun _ => true) true Tryd.f9.params.toList args.toList ds p := hA0
  rw [Tryd.params9] at hA hval
  obtain ⟨v0, vs0, d0, ds0, p0, q0, hargs, rfl, rfl, h0, r0⟩ := trodAll_cons hA
  obtain ⟨rfl, rfl, rfl⟩ := trodAll_nil r0
  obtain rfl : args = #[v0] := by cases args; simp_all
  obtain ⟨rfl, rfl⟩ := trodVars_none hV
  obtain ⟨a0, len0, cap0, rfl⟩ := okWide_slice Tryd.underlying22 (hval 0 22 v0 rfl rfl)
  have k0 := h0
  have lt0 : ∀ x ∈ p0, x.block < W.heap.size := by obtain ⟨m, hm⟩ := k0; exact DataW.trod_lt m _ _ _ hm
  obtain ⟨z0, w0⟩ : ∃ zs, IsRow .u8 W a0 len0 cap0 zs := by
    obtain ⟨fuel, hf⟩ := h0
    rcases open_ints Tryd.underlying22 Tryd.underlying5 (by kernel_rfl) hf with ⟨hcs, _⟩ | ⟨x, l, c, zs, hcs, _, hl, hm, hz, _, hcell, hwz⟩
    · simp [Value.cells] at hcs
      obtain ⟨rfl, rfl, rfl⟩ := hcs
      exact ⟨[], .inl ⟨rfl, rfl, rfl, rfl⟩⟩
    · simp [Value.cells] at hcs
      obtain ⟨rfl, rfl, rfl⟩ := hcs
      exact ⟨zs, .inr ⟨_, rfl, hl, hm, by simpa using hz, hcell, hwz⟩⟩
  obtain ⟨ae, hE⟩ := env_of hL
  clear hA0 hval0
  refine (walk a0 len0 cap0 z0 W w0 ae hE).mono fun e W' ⟨he, bel⟩ => ?_
  subst he
  exact ⟨_, rfl, _, _, _, [], _, [], hW', trodAll_mk1 (shut_bool Tryd.underlying4 _), (trodAll_cons_mk (Below.trod laidOut (by kernel_rfl) (of_decide_eq_true (by kernel_rfl)) k0 bel lt0) trodAll_mk0), rfl, bel.frame _, fun h => by cases h⟩

theorem over : Rows.fnStarFillRow.holds Tryd.pinned (OpenSpec.ofChange Rows.fnStarFillSpec) :=
  OpenClaim.holds_of_wide 9 Tryd.f9 rfl rfl rfl rfl rfl rfl rfl ⟨rfl, rfl, rfl, rfl, rfl⟩ rfl rfl rfl rfl rfl (by kernel_rfl) Tryd.func9 (by kernel_rfl)
    (of_decide_eq_true (by kernel_rfl)) (by unfold Func.isWrapper; first | (rw [if_pos (by decide +kernel)]; kernel_rfl) | (rw [if_neg (by decide +kernel)]; exact ⟨rfl, rfl⟩))
    (fun os started H enc _ => lifted os started H enc)

theorem proved : Rows.FnStarFillCardSaid :=
  Claim7.holds_tied_plain_at .later [] Rows.fnStarFillCard.laidKinds true Rows.fnStarFillCard.stood.harness true over (fun _ h => by cases h) (by kernel_rfl) (fun _ h => by cases h) fnStarFill_row_tie rfl ⟨rfl, rfl⟩ (by kernel_rfl) rfl
    (fun f fn hf hfn => by
      obtain rfl : f = 9 := Option.some.inj ((show Tryd.prog.funcNamed Rows.fnStarFillRow.func = some 9 by kernel_rfl).symm.trans hf) |>.symm
      obtain rfl : fn = Tryd.f9 := (Option.some.inj (Tryd.func9.symm.trans hfn)).symm
      exact ⟨by kernel_rfl, fun j t ht => by
        rw [Tryd.params9] at ht
        have hm : t ∈ [22] := by simpa using Array.mem_of_getElem? ht
        have hall : ([22].all fun u => !Tryd.prog.wantsStandIn u) = true := by kernel_rfl
        exact (show Tryd.prog.wantsStandIn t = false by simpa using List.all_eq_true.1 hall t hm)⟩)
    (by kernel_rfl)
end Go.Proofs.YtpkhcndhckocnaaDoor.fnStarFill


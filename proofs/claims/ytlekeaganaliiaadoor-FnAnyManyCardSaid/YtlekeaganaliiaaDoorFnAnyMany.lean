/-
  As many question marks as a number match exactly the names of as many characters, none of which is a slash: the law returns true for every input and leaves it as it was. Conditions: none.
  The frame round the walk is the kit's own (proof-skeleton.mjs).
-/
import Derived.Test.YtlekeaganaliiaaDoorRows
import Derived.Test.YtlekeaganaliiaaDoorLawQ
import Derived.Test.YtlekeaganaliiaaDoorLate
import Derived.Test.YtlekeaganaliiaaDoorDrawF
import Derived.Test.YtlekeaganaliiaaDoorStrC
import Derived.Test.YtlekeaganaliiaaDoorTie
import Derived.Test.YtlekeaganaliiaaDoorCards
import Derived.Test.YtlekeaganaliiaaDoorLaid
import Derived.LaidMore
import Derived.Lay
import Derived.SevenTiedAt
import Derived.Stop.Joined
namespace Go.Proofs.YtlekeaganaliiaaDoor.fnAnyMany
open Go.ChangeShapes Go.WideShapes Go.ChangeAt Go.RowKit
open Go.ChangeMaps (open_string shut_string)
set_option linter.unusedVariables false

theorem repeat_one (c : UInt8) : ∀ K, Lib.repeatL [c] K = List.replicate K c
  | 0 => rfl
  | K + 1 => by
    show [c] ++ Lib.repeatL [c] K = _
    rw [repeat_one c K]
    rfl
set_option maxRecDepth 20000 in
set_option maxHeartbeats 2000000 in
theorem walk (a : Option Addr) (len cap : Nat) (zs : List Int) (w : World) (hr : IsRow .u8 w a len cap zs) (ae : Addr) (hE : Env ae w) :
    Calls Tryd.prog 4 #[.slice a len cap] w fun e w' => e = .returned (.bool true) ∧ Below w.heap.size w w' := by
  have HR := Lib.hid hr
  have HE := Lib.hid hE
  clear hr hE
  by_cases hlen : 1048576 < len
  · have hl' : (1048576 : Int) < len := by omega
    go_enter Tryd.func4, Tryd.ntmps4
    go_wp2
    go_ret
    exact ⟨rfl, Below.refl _ _⟩
  · have hl' : ¬ (1048576 : Int) < len := by omega
    go_enter Tryd.func4, Tryd.ntmps4
    go_wp2_with fail
    refine (drawTexts_any a len cap zs _ HR.out (by omega)).mono ?_
    rintro e w1 ⟨p, n, rfl, hpl, hnl, hb⟩
    have HE1 := Lib.hid (HE.out.on hb)
    have HB1 := Lib.hid hb
    clear hb HR HE
    go_wp2_with fail
    refine (validB ae _ p w1 HE1.out rfl (by omega)).mono ?_
    rintro e w2 ⟨rfl, hb⟩
    have HE2 := Lib.hid (HE1.out.on hb)
    have HB2 := Lib.hid (HB1.out.trans (hb.mono HB1.out.size))
    clear hb HE1 HB1
    generalize hA : Lib.validD p = A
    have HA := Lib.hid hA
    clear hA
    cases A with
    | false =>
      go_wp2
      go_ret
      exact ⟨rfl, HB2.out⟩
    | true =>
      go_wp2_with fail
      refine (validB ae _ n w2 HE2.out rfl (by omega)).mono ?_
      rintro e w3 ⟨rfl, hb⟩
      have HE3 := Lib.hid (HE2.out.on hb)
      have HB3 := Lib.hid (HB2.out.trans (hb.mono HB2.out.size))
      clear hb HE2 HB2
      generalize hV : Lib.validD n = V
      have HV := Lib.hid hV
      clear hV
      cases V with
      | false =>
        go_wp2
        go_ret
        exact ⟨rfl, HB3.out⟩
      | true =>
        have hcp := cutsL_len p
        have hrp := runes_len _ p (Nat.le_refl _)
        have hcn := cutsL_len n
        have hrn := runes_len _ n (Nat.le_refl _)
        obtain ⟨K, hK⟩ : ∃ K, (cutsL p).length = K + 1 := ⟨_, hcp⟩
        have hKb : K ≤ 1048576 := by omega
        have HL := Lib.hid (law_anyMany K HV.out)
        obtain ⟨M, hM⟩ : ∃ M, (cutsL n).length = M + 1 := ⟨_, hcn⟩
        have hMr : (runes n).length = M := by omega
        have hMb : M ≤ 1048576 := by omega
        rw [hMr] at HL
        obtain ⟨Z, hZ⟩ : ∃ Z, Z = n.contains 47 := ⟨_, rfl⟩
        rw [← hZ] at HL
        have HZ := Lib.hid hZ.symm
        clear hZ
        have hrep : Hid (Lib.repeatL [63] K = List.replicate K 63) := Lib.hid (repeat_one 63 K)
        have z1 : ((K + 1 : Nat) : Int) - 1 = (K : Int) := by omega
        have z2 : ((M + 1 : Nat) : Int) - 1 = (M : Int) := by omega
        clear HA HV hcp hrp hcn hrn hMr
        go_wp2_with fail
        refine (cuts_call ae p w3 HE3.out (by omega)).mono ?_
        rintro e w4 ⟨v, rfl, ⟨gg, cc, rfl, hcc, hcm, hgg, hcells⟩, hb⟩
        have HE4 := Lib.hid (HE3.out.on hb)
        have HB4 := Lib.hid (HB3.out.trans (hb.mono HB3.out.size))
        rw [hK] at hcc ⊢
        clear hb HE3 HB3 hcells hgg hK hcm
        go_wp2_with fail
        refine (Tryd.strings_Repeat ⟨#[63]⟩ K w4 (by omega) (by show 1 * K ≤ _; omega)).mono ?_
        rintro e w5 ⟨rfl, hb⟩
        have HE5 := Lib.hid (HE4.out.on hb)
        have HB5 := Lib.hid (HB4.out.trans (hb.mono HB4.out.size))
        rw [show (⟨#[63]⟩ : ByteArray).data.toList = [63] from rfl, hrep.out]
        clear hb HE4 HB4 hrep hcc
        have hrl : (List.replicate K (63 : UInt8)).length = K := List.length_replicate
        obtain ⟨P, hP⟩ : ∃ P : Bs, List.replicate K 63 = P := ⟨_, rfl⟩
        rw [hP] at HL hrl ⊢
        clear hP
        go_wp2_with fail
        refine (matchB ae _ _ P n w5 HE5.out rfl rfl (by omega) (by omega)).mono ?_
        rintro e w6 ⟨rfl, hb⟩
        have HE6 := Lib.hid (HE5.out.on hb)
        have HB6 := Lib.hid (HB5.out.trans (hb.mono HB5.out.size))
        clear hb HE5 HB5
        rw [HL.out.1, HL.out.2]
        clear HL
        go_wp2_with fail
        refine (cuts_call ae n w6 HE6.out (by omega)).mono ?_
        rintro e w7 ⟨v, rfl, ⟨gn, cn, rfl, hcc, hcm, hgg, hcells⟩, hb⟩
        have HE7 := Lib.hid (HE6.out.on hb)
        have HB7 := Lib.hid (HB6.out.trans (hb.mono HB6.out.size))
        rw [hM] at hcc ⊢
        clear hb HE6 HB6 hcells hgg hM hcm hcc
        by_cases hMK : M = K
        · subst hMK
          rw [decide_eq_true (rfl : M = M), Bool.true_and]
          cases Z
          all_goals
            go_wp2_with fail
            refine (slashB _ n w7 rfl).mono ?_
            rintro e w8 ⟨rfl, hb⟩
            rw [HZ.out]
            have HB8 := Lib.hid (HB7.out.trans (hb.mono HB7.out.size))
            clear hb HE7 HB7
            go_wp2
            go_ret
            exact ⟨rfl, HB8.out⟩
        · have hMKb : ((M : Int) == (K : Int)) = false := by simp; omega
          rw [decide_eq_false hMK, Bool.false_and]
          clear hMK
          go_wp2
          go_ret
          exact ⟨rfl, HB7.out⟩


set_option maxRecDepth 100000 in
theorem lifted (os : Os) (started : os.Started) (H : Type) (enc : TypeId × Value → H) :
    ReturnsInHanded {} Tryd.checked os 4 .any (fun w args => (Rows.fnAnyManySpec.pre enc Tryd.prog Tryd.f4 Rows.fnAnyManyRow.domain false w args ∧ laidMetH Tryd.prog Rows.fnAnyManyRow.laid w) ∧ sizedMet enc Tryd.prog Tryd.f4 (OpenSpec.ofChange Rows.fnAnyManySpec) false w args) (Rows.fnAnyManySpec.post enc Tryd.prog Tryd.f4 false true false false) := by
  refine returnsInHanded_of_change_and (C := Tryd.checked) (X := fun w _ => laidMetH Tryd.prog Rows.fnAnyManyRow.laid w) (fun _ _ _ hh h => h.of_heap hh) own started (by kernel_rfl) Tryd.func4
    (ChangeSpec.witness_shaped (enc := enc) (C := Tryd.checked) (os := os) (X := fun w _ => laidMetH Tryd.prog Rows.fnAnyManyRow.laid w) false (World.laidAll Tryd.prog os Rows.fnAnyManyRow.laid) #[.slice none 0 0] 8 (World.laidAll_os _ _ _)
      (World.shaped_of_ZipB (by kernel_rfl) (by kernel_rfl)) (by kernel_rfl) (by kernel_rfl) (by kernel_rfl)
      (by rw [MakeChecks.laidMetH_plain _ _ _ (by kernel_rfl)]; exact laidMet_laidAll _ (by kernel_rfl) (by kernel_rfl))) ?_
  intro W base args ds gs before hval0 hW hcnd hsz0 hL _
  have hval : ∀ (j : Nat) t v, Tryd.f4.params[j]? = some t → args[j]? = some v → Value.okWide Tryd.prog W .any base t v := hval0
  have hW' := hW
  obtain ⟨p, q, hA0, hV, rfl, hfz, hnd⟩ := hW
  have hA : DataW.TrodAll enc Tryd.prog W 0 (fun _ => true) true Tryd.f4.params.toList args.toList ds p := hA0
  rw [Tryd.params4] at hA hval
  obtain ⟨v0, vs0, d0, ds0, p0, q0, hargs, rfl, rfl, h0, r0⟩ := trodAll_cons hA
  obtain ⟨rfl, rfl, rfl⟩ := trodAll_nil r0
  obtain rfl : args = #[v0] := by cases args; simp_all
  obtain ⟨rfl, rfl⟩ := trodVars_none hV
  obtain ⟨a0, len0, cap0, rfl⟩ := okWide_slice Tryd.underlying25 (hval 0 25 v0 rfl rfl)
  have k0 := h0
  have lt0 : ∀ x ∈ p0, x.block < W.heap.size := by obtain ⟨m, hm⟩ := k0; exact DataW.trod_lt m _ _ _ hm
  obtain ⟨z0, w0⟩ : ∃ zs, IsRow .u8 W a0 len0 cap0 zs := by
    obtain ⟨fuel, hf⟩ := h0
    rcases open_ints Tryd.underlying25 Tryd.underlying5 (by kernel_rfl) hf with ⟨hcs, _⟩ | ⟨x, l, c, zs, hcs, _, hl, hm, hz, _, hcell, hwz⟩
    · simp [Value.cells] at hcs
      obtain ⟨rfl, rfl, rfl⟩ := hcs
      exact ⟨[], .inl ⟨rfl, rfl, rfl, rfl⟩⟩
    · simp [Value.cells] at hcs
      obtain ⟨rfl, rfl, rfl⟩ := hcs
      exact ⟨zs, .inr ⟨_, rfl, hl, hm, by simpa using hz, hcell, hwz⟩⟩
  obtain ⟨ae, hE⟩ := env_of hL
  clear hA0 hval0
  refine (walk a0 len0 cap0 z0 W w0 ae hE).mono fun e W' ⟨he, bel⟩ => ?_
  subst he
  exact ⟨_, rfl, _, _, _, [], _, [], hW', trodAll_mk1 (shut_bool Tryd.underlying4 _), (trodAll_cons_mk (Below.trod laidOut (by kernel_rfl) (of_decide_eq_true (by kernel_rfl)) k0 bel lt0) trodAll_mk0), rfl, bel.frame _, fun h => by cases h⟩

theorem over : Rows.fnAnyManyRow.holds Tryd.pinned (OpenSpec.ofChange Rows.fnAnyManySpec) :=
  OpenClaim.holds_of_wide 4 Tryd.f4 rfl rfl rfl rfl rfl rfl rfl ⟨rfl, rfl, rfl, rfl, rfl⟩ rfl rfl rfl rfl rfl (by kernel_rfl) Tryd.func4 (by kernel_rfl)
    (of_decide_eq_true (by kernel_rfl)) (by unfold Func.isWrapper; first | (rw [if_pos (by decide +kernel)]; kernel_rfl) | (rw [if_neg (by decide +kernel)]; exact ⟨rfl, rfl⟩))
    (fun os started H enc _ => lifted os started H enc)

theorem proved : Rows.FnAnyManyCardSaid :=
  Claim7.holds_tied_plain_at .later [] Rows.fnAnyManyCard.laidKinds true Rows.fnAnyManyCard.stood.harness true over (fun _ h => by cases h) (by kernel_rfl) (fun _ h => by cases h) fnAnyMany_row_tie rfl ⟨rfl, rfl⟩ (by kernel_rfl) rfl
    (fun f fn hf hfn => by
      obtain rfl : f = 4 := Option.some.inj ((show Tryd.prog.funcNamed Rows.fnAnyManyRow.func = some 4 by kernel_rfl).symm.trans hf) |>.symm
      obtain rfl : fn = Tryd.f4 := (Option.some.inj (Tryd.func4.symm.trans hfn)).symm
      exact ⟨by kernel_rfl, fun j t ht => by
        rw [Tryd.params4] at ht
        have hm : t ∈ [25] := by simpa using Array.mem_of_getElem? ht
        have hall : ([25].all fun u => !Tryd.prog.wantsStandIn u) = true := by kernel_rfl
        exact (show Tryd.prog.wantsStandIn t = false by simpa using List.all_eq_true.1 hall t hm)⟩)
    (by kernel_rfl)
end Go.Proofs.YtlekeaganaliiaaDoor.fnAnyMany


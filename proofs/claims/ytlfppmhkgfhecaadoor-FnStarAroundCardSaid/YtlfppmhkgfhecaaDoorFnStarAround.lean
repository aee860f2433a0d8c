/-
  Stars around a text match exactly the names that have the text somewhere, without a slash before it and behind it: the law returns true for every input and leaves it as it was. Conditions: none.
  The frame round the walk is the kit's own (proof-skeleton.mjs).
-/
import Derived.Test.YtlfppmhkgfhecaaDoorRows
import Derived.Test.YtlfppmhkgfhecaaDoorLawG
import Derived.Test.YtlfppmhkgfhecaaDoorDrawF
import Derived.Test.YtlfppmhkgfhecaaDoorStrC
import Derived.Test.YtlfppmhkgfhecaaDoorLate
import Derived.Test.YtlfppmhkgfhecaaDoorTie
import Derived.Test.YtlfppmhkgfhecaaDoorCards
import Derived.Test.YtlfppmhkgfhecaaDoorLaid
import Derived.LaidMore
import Derived.Lay
import Derived.SevenTiedAt
import Derived.Stop.Joined
namespace Go.Proofs.YtlfppmhkgfhecaaDoor.fnStarAround
open Go.ChangeShapes Go.WideShapes Go.ChangeAt Go.RowKit
open Go.ChangeMaps (open_string shut_string)
set_option linter.unusedVariables false

theorem below_dN {B : Nat} {a w : World} (h : Below B a w) (n : Nat) : Below B a (w.drewN n) := ⟨h.os, h.tape, h.output, h.size, h.block⟩
theorem below_src {w W : World} (h : Below w.drew.heap.size w.drew W) : Below w.heap.size w W := ⟨h.os, h.tape, h.output, h.size, h.block⟩
set_option maxRecDepth 20000 in
set_option maxHeartbeats 2000000 in
theorem walk (a : Option Addr) (len cap : Nat) (zs : List Int) (w : World) (hr : IsRow .u8 w a len cap zs) (ae : Addr) (hE : Env ae w) :
    Calls Tryd.prog 13 #[.slice a len cap] w fun e w' => e = .returned (.bool true) ∧ Below w.heap.size w w' := by
  have HR := Lib.hid hr
  have HE := Lib.hid hE
  clear hr hE
  by_cases hlen : 1048576 < len
  · have hl' : (1048576 : Int) < len := by omega
    go_enter Tryd.func13, Tryd.ntmps13
    go_wp2
    go_ret
    exact ⟨rfl, Below.refl _ _⟩
  · have hl' : ¬ (1048576 : Int) < len := by omega
    go_enter Tryd.func13, Tryd.ntmps13
    go_wp2_with fail
    refine (drawTexts_any a len cap zs _ HR.out (by omega)).mono ?_
    rintro e w1 ⟨p, n, rfl, hpl, hnl, hb⟩
    have HE1 := Lib.hid (HE.out.on hb)
    have HB1 := Lib.hid hb
    clear hb HR HE
    go_wp2_with fail
    refine (validB ae _ p w1 HE1.out rfl (by omega)).mono ?_
    rintro e w2 ⟨rfl, hb⟩
    have HE2 := Lib.hid (HE1.out.on hb)
    have HB2 := Lib.hid (HB1.out.trans (hb.mono HB1.out.size))
    clear hb HE1 HB1
    generalize hA : Lib.validD p = A
    have HA := Lib.hid hA
    clear hA
    cases A with
    | false =>
      go_wp2
      go_ret
      exact ⟨rfl, HB2.out⟩
    | true =>
      go_wp2_with fail
      refine (validB ae _ n w2 HE2.out rfl (by omega)).mono ?_
      rintro e w3 ⟨rfl, hb⟩
      have HE3 := Lib.hid (HE2.out.on hb)
      have HB3 := Lib.hid (HB2.out.trans (hb.mono HB2.out.size))
      clear hb HE2 HB2
      generalize hV : Lib.validD n = V
      have HV := Lib.hid hV
      clear hV
      cases V with
      | false =>
        go_wp2
        go_ret
        exact ⟨rfl, HB3.out⟩
      | true =>
        have HL := Lib.hid (law_around HA.out n)
        have HBB := Lib.hid (law_starAround HA.out n).1
        have hpq := quoteB_len p
        clear HA HV
        go_wp2
        go_loopw [5, 6] (fun wv i wr => ∃ (k : Nat), i = .int .i64 (k : Nat) ∧ k ≤ n.length + 1 - p.length ∧ wv = .bool (aroundUpto p n k) ∧ Below w3.heap.size w3 wr) (fun _ i _ => n.length + 1 - p.length - (intOf i).toNat)
        case atStart => exact ⟨0, rfl, Nat.zero_le _, rfl, Below.refl _ _⟩
        case round =>
          obtain ⟨k, rfl, hk, rfl, hb⟩ := hrel
          have HB := Lib.hid hb
          clear hb
          by_cases hkl : k + p.length ≤ n.length
          · have HS := Lib.hid (aroundUpto_succ p n k)
            have hw1 : IntKind.i64.wrap ((k : Int) + (p.length : Int)) = (k : Int) + (p.length : Int) := by rw [IntKind.wrap_i64]; omega
            have hk1 : (k : Int) + (p.length : Int) ≤ (n.length : Int) := by omega
            have hk2 : (0 : Int) ≤ (k : Int) := by omega
            have hk3 : (k : Int) ≤ (k : Int) + (p.length : Int) := by omega
            have hk4 : (k : Int) ≤ (n.length : Int) := by omega
            have hk5 : ((k : Int) + (p.length : Int)).toNat = k + p.length := by omega
            have hk6 : (0 : Int) ≤ (k : Int) + (p.length : Int) := by omega
            generalize aroundUpto p n k = X at *
            cases X with
            | true =>
              have HS2 : Hid (aroundUpto p n (k + 1) = true) := Lib.hid (by rw [HS.out]; rfl)
              clear HS
              go_wp2_with fail
              go_quiet (fail)
              go_wp2
              go_roundw
              case rel => exact ⟨k + 1, by go_num, by omega, by rw [HS2.out], below_dN HB.out _⟩
              case measure => simp [intOf]; omega
            | false =>
              have HS2 : Hid (aroundUpto p n (k + 1) = aroundAt p n k) := Lib.hid (by rw [HS.out]; rfl)
              clear HS
              obtain ⟨T, hT⟩ : ∃ T : ByteArray, (⟨n.toArray⟩ : ByteArray).extract k (k + p.length) = T := ⟨_, rfl⟩
              have hTd : T.data.toList = (n.drop k).take p.length := by rw [← hT, ba_mid]; congr 1; omega
              obtain ⟨U, hU⟩ : ∃ U : ByteArray, (⟨n.toArray⟩ : ByteArray).extract 0 k = U := ⟨_, rfl⟩
              obtain ⟨Y, hY⟩ : ∃ Y : ByteArray, (⟨n.toArray⟩ : ByteArray).extract (k + p.length) n.length = Y := ⟨_, rfl⟩
              have HUY : Hid ((U ++ Y).data.toList = n.take k ++ n.drop (k + p.length)) := Lib.hid (by rw [ba_app, ← hU, ← hY, ba_take n k 0 k rfl rfl, ba_drop n _ _ rfl])
              have hUs : U.size ≤ n.length := by rw [ba_len, ← hU, ba_take n k 0 k rfl rfl, List.length_take]; omega
              have hYs : Y.size ≤ n.length := by rw [ba_len, ← hY, ba_drop n _ _ rfl, List.length_drop]; omega
              have hz1 : ¬ 9223372036854775807 < U.size + Y.size := by omega
              have hz2 : U.size + Y.size ≤ 9223372036854775807 := by omega
              by_cases hE : (n.drop k).take p.length = p
              · have hE2 : (T.toList == p) = true := by rw [Lib.toList_data, hTd, hE]; simp
                have HAT : Hid (aroundAt p n k = !(n.take k ++ n.drop (k + p.length)).contains 47) := Lib.hid (by unfold aroundAt; rw [decide_eq_true hE, Bool.true_and])
                obtain ⟨Z, hZ⟩ : ∃ Z, Z = (n.take k ++ n.drop (k + p.length)).contains 47 := ⟨_, rfl⟩
                rw [← hZ] at HAT
                have HC : Hid (∀ W, Calls Tryd.prog 31 #[.string (U ++ Y), .string ⟨#[47]⟩] W fun e w' => e = .returned (.bool Z) ∧ w' = W) := Lib.hid (fun W => by have h := Tryd.strings_Contains_one (U ++ Y) 47 W; rw [index_contains, HUY.out, ← hZ] at h; exact h)
                clear hE hZ hTd HUY
                cases Z
                all_goals
                  go_wp2_with fail
                  go_quiet ((go_at_call 31; exact Calls.quiet_of_same (HC.out _)))
                  go_wp2
                  go_roundw
                  case rel => exact ⟨k + 1, by go_num, by omega, by rw [HS2.out, HAT.out]; rfl, below_dN HB.out _⟩
                  case measure => simp [intOf]; omega
              · have hE2 : (T.toList == p) = false := by rw [Lib.toList_data, hTd, beq_eq_false_iff_ne]; exact hE
                have HAT : Hid (aroundAt p n k = false) := Lib.hid (by unfold aroundAt; rw [decide_eq_false hE, Bool.false_and])
                clear hE hTd HUY
                go_wp2_with fail
                go_quiet (fail)
                go_wp2
                go_roundw
                case rel => exact ⟨k + 1, by go_num, by omega, by rw [HS2.out, HAT.out], below_dN HB.out _⟩
                case measure => simp [intOf]; omega
          · obtain hke : k = n.length + 1 - p.length := by omega
            have HM := Lib.hid (HL.out k hke)
            have HE4 := Lib.hid (HE3.out.on HB.out)
            have HB4 := Lib.hid (HB3.out.trans (HB.out.mono HB3.out.size))
            have hki : ¬ (k : Int) + (p.length : Int) ≤ (n.length : Int) := by omega
            clear HB HE3 HB3 HL hke
            generalize aroundUpto p n k = X at *
            go_wp2_with fail
            refine (quoteCB _ p wr rfl (by omega)).mono ?_
            rintro e w5 ⟨rfl, hb⟩
            have HE5 := Lib.hid (HE4.out.on hb)
            have HB5 := Lib.hid (HB4.out.trans (hb.mono HB4.out.size))
            clear hb HE4 HB4
            go_wp2_with fail
            refine (matchB ae _ _ ([42] ++ quoteB p ++ [42]) n w5 HE5.out (by simp) rfl (by simp; omega) (by omega)).mono ?_
            rintro e w6 ⟨rfl, hb⟩
            have HB6 := Lib.hid (HB5.out.trans (hb.mono HB5.out.size))
            clear hb HE5 HB5
            rw [HM.out, HBB.out]
            clear HM HBB
            cases X
            all_goals
              go_wp2
              go_ret
              exact ⟨rfl, HB6.out⟩


set_option maxRecDepth 100000 in
theorem lifted (os : Os) (started : os.Started) (H : Type) (enc : TypeId × Value → H) :
    ReturnsInHanded {} Tryd.checked os 13 .any (fun w args => (Rows.fnStarAroundSpec.pre enc Tryd.prog Tryd.f13 Rows.fnStarAroundRow.domain false w args ∧ laidMetH Tryd.prog Rows.fnStarAroundRow.laid w) ∧ sizedMet enc Tryd.prog Tryd.f13 (OpenSpec.ofChange Rows.fnStarAroundSpec) false w args) (Rows.fnStarAroundSpec.post enc Tryd.prog Tryd.f13 false true false false) := by
  refine returnsInHanded_of_change_and (C := Tryd.checked) (X := fun w _ => laidMetH Tryd.prog Rows.fnStarAroundRow.laid w) (fun _ _ _ hh h => h.of_heap hh) own started (by kernel_rfl) Tryd.func13
    (ChangeSpec.witness_shaped (enc := enc) (C := Tryd.checked) (os := os) (X := fun w _ => laidMetH Tryd.prog Rows.fnStarAroundRow.laid w) false (World.laidAll Tryd.prog os Rows.fnStarAroundRow.laid) #[.slice none 0 0] 8 (World.laidAll_os _ _ _)
      (World.shaped_of_ZipB (by kernel_rfl) (by kernel_rfl)) (by kernel_rfl) (by kernel_rfl) (by kernel_rfl)
      (by rw [MakeChecks.laidMetH_plain _ _ _ (by kernel_rfl)]; exact laidMet_laidAll _ (by kernel_rfl) (by kernel_rfl))) ?_
  intro W base args ds gs before hval0 hW hcnd hsz0 hL _
  have hval : ∀ (j : Nat) t v, Tryd.f13.params[j]? = some t → args[j]? = some v → Value.okWide Tryd.prog W .any base t v := hval0
  have hW' := hW
  obtain ⟨p, q, hA0, hV, rfl, hfz, hnd⟩ := hW
  have hA : DataW.TrodAll enc Tryd.prog W 0 (fun _ => true) true Tryd.f13.params.toList args.toList ds p := hA0
  rw [Tryd.params13] at hA hval
  obtain ⟨v0, vs0, d0, ds0, p0, q0, hargs, rfl, rfl, h0, r0⟩ := trodAll_cons hA
  obtain ⟨rfl, rfl, rfl⟩ := trodAll_nil r0
  obtain rfl : args = #[v0] := by cases args; simp_all
  obtain ⟨rfl, rfl⟩ := trodVars_none hV
  obtain ⟨a0, len0, cap0, rfl⟩ := okWide_slice Tryd.underlying22 (hval 0 22 v0 rfl rfl)
  have k0 := h0
  have lt0 : ∀ x ∈ p0, x.block < W.heap.size := by obtain ⟨m, hm⟩ := k0; exact DataW.trod_lt m _ _ _ hm
  obtain ⟨z0, w0⟩ : ∃ zs, IsRow .u8 W a0 len0 cap0 zs := by
    obtain ⟨fuel, hf⟩ := h0
    rcases open_ints Tryd.underlying22 Tryd.underlying5 (by kernel_rfl) hf with ⟨hcs, _⟩ | ⟨x, l, c, zs, hcs, _, hl, hm, hz, _, hcell, hwz⟩
    · simp [Value.cells] at hcs
      obtain ⟨rfl, rfl, rfl⟩ := hcs
      exact ⟨[], .inl ⟨rfl, rfl, rfl, rfl⟩⟩
    · simp [Value.cells] at hcs
      obtain ⟨rfl, rfl, rfl⟩ := hcs
      exact ⟨zs, .inr ⟨_, rfl, hl, hm, by simpa using hz, hcell, hwz⟩⟩
  obtain ⟨ae, hE⟩ := env_of hL
  clear hA0 hval0
  refine (walk a0 len0 cap0 z0 W w0 ae hE).mono fun e W' ⟨he, bel⟩ => ?_
  subst he
  exact ⟨_, rfl, _, _, _, [], _, [], hW', trodAll_mk1 (shut_bool Tryd.underlying4 _), (trodAll_cons_mk (Below.trod laidOut (by kernel_rfl) (of_decide_eq_true (by kernel_rfl)) k0 bel lt0) trodAll_mk0), rfl, bel.frame _, fun h => by cases h⟩

theorem over : Rows.fnStarAroundRow.holds Tryd.pinned (OpenSpec.ofChange Rows.fnStarAroundSpec) :=
  OpenClaim.holds_of_wide 13 Tryd.f13 rfl rfl rfl rfl rfl rfl rfl ⟨rfl, rfl, rfl, rfl, rfl⟩ rfl rfl rfl rfl rfl (by kernel_rfl) Tryd.func13 (by kernel_rfl)
    (of_decide_eq_true (by kernel_rfl)) (by unfold Func.isWrapper; first | (rw [if_pos (by decide +kernel)]; kernel_rfl) | (rw [if_neg (by decide +kernel)]; exact ⟨rfl, rfl⟩))
    (fun os started H enc _ => lifted os started H enc)

theorem proved : Rows.FnStarAroundCardSaid :=
  Claim7.holds_tied_plain_at .later [] Rows.fnStarAroundCard.laidKinds true Rows.fnStarAroundCard.stood.harness true over (fun _ h => by cases h) (by kernel_rfl) (fun _ h => by cases h) fnStarAround_row_tie rfl ⟨rfl, rfl⟩ (by kernel_rfl) rfl
    (fun f fn hf hfn => by
      obtain rfl : f = 13 := Option.some.inj ((show Tryd.prog.funcNamed Rows.fnStarAroundRow.func = some 13 by kernel_rfl).symm.trans hf) |>.symm
      obtain rfl : fn = Tryd.f13 := (Option.some.inj (Tryd.func13.symm.trans hfn)).symm
      exact ⟨by kernel_rfl, fun j t ht => by
        rw [Tryd.params13] at ht
        have hm : t ∈ [22] := by simpa using Array.mem_of_getElem? ht
        have hall : ([22].all fun u => !Tryd.prog.wantsStandIn u) = true := by kernel_rfl
        exact (show Tryd.prog.wantsStandIn t = false by simpa using List.all_eq_true.1 hall t hm)⟩)
    (by kernel_rfl)
end Go.Proofs.YtlfppmhkgfhecaaDoor.fnStarAround


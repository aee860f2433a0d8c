/-
  Of decided pairs, a star before a pattern matches a name if the pattern does, or if it does so without the first character, which is no slash: the law returns true for every input and leaves it as it was. Conditions: none.
  The frame round the walk is the kit's own (proof-skeleton.mjs).
-/
import Derived.Test.YtefkgdbmndhebaaDoorRows
import Derived.Test.YtefkgdbmndhebaaDoorDecC
import Derived.Test.YtefkgdbmndhebaaDoorQuoteC
import Derived.Test.YtefkgdbmndhebaaDoorDrawN
import Derived.Test.YtefkgdbmndhebaaDoorImplB
import Derived.Test.YtefkgdbmndhebaaDoorTie
import Derived.Test.YtefkgdbmndhebaaDoorCards
import Derived.Test.YtefkgdbmndhebaaDoorLaid
import Derived.LaidMore
import Derived.Lay
import Derived.SevenTiedAt
import Derived.Stop.Joined
namespace Go.Proofs.YtefkgdbmndhebaaDoor.fnStarHead
open Go.ChangeShapes Go.WideShapes Go.ChangeAt Go.RowKit
open Go.ChangeMaps (open_string shut_string)
set_option linter.unusedVariables false

set_option maxHeartbeats 2000000 in
theorem walk (a : Option Addr) (len cap : Nat) (zs : List Int) (w : World) (hr : IsRow .u8 w a len cap zs) (ae : Addr) (hE : Env ae w) :
    Calls Tryd.prog 12 #[.slice a len cap] w fun e w' => e = .returned (.bool true) ∧ Below w.heap.size w w' := by
  have HR := Lib.hid hr
  have HE := Lib.hid hE
  clear hr hE
  by_cases hlen : 1048576 < len
  · have hl' : (1048576 : Int) < len := by omega
    go_enter Tryd.func12, Tryd.ntmps12
    go_wp2
    go_ret
    exact ⟨rfl, Below.refl _ _⟩
  · have hl' : ¬ (1048576 : Int) < len := by omega
    go_enter Tryd.func12, Tryd.ntmps12
    go_wp2_with fail
    refine (drawMatch_any a len cap zs _ HR.out (by omega)).mono ?_
    rintro e w1 ⟨p, n, rfl, hpl, hnl, hb⟩
    have HE1 := Lib.hid (HE.out.on hb)
    have HB1 := Lib.hid hb
    clear hb HR HE
    go_wp2_with fail
    refine (yesStar ae w1 HE1.out).mono ?_
    rintro e w2 ⟨rfl, hb⟩
    have HE2 := Lib.hid (HE1.out.on hb)
    have HB2 := Lib.hid (HB1.out.trans (hb.mono HB1.out.size))
    clear hb HE1 HB1
    go_wp2_with fail
    refine (wellFormedB ae _ p w2 HE2.out rfl (by omega)).mono ?_
    rintro e w3 ⟨rfl, hb⟩
    have HE3 := Lib.hid (HE2.out.on hb)
    have HB3 := Lib.hid (HB2.out.trans (hb.mono HB2.out.size))
    clear hb HE2 HB2
    generalize hA : wfB p = A
    have HA := Lib.hid hA
    clear hA
    cases A with
    | false =>
      go_wp2
      go_ret
      exact ⟨rfl, HB3.out⟩
    | true =>
      go_wp2_with fail
      refine (decidedCB ae _ _ ([42] ++ p) n w3 HE3.out (by simp) rfl (by simp; omega) (by omega)).mono ?_
      rintro e w4 ⟨rfl, hb⟩
      have HE4 := Lib.hid (HE3.out.on hb)
      have HB4 := Lib.hid (HB3.out.trans (hb.mono HB3.out.size))
      clear hb HE3 HB3
      generalize hB : decdB ([42] ++ p) n = B
      have HB := Lib.hid hB
      clear hB
      cases B with
      | false =>
        go_wp2
        go_ret
        exact ⟨rfl, HB4.out⟩
      | true =>
        have HQ := Lib.hid (law_starHead HA.out)
        clear HA
        cases n with
        | nil =>
          have HF := Lib.hid (HQ.out.1 HB.out)
          clear HQ HB
          go_wp2_with fail
          refine (yesB ae _ _ p [] w4 HE4.out rfl rfl (by omega) (by simp)).mono ?_
          rintro e w5 ⟨rfl, hb⟩
          have HE5 := Lib.hid (HE4.out.on hb)
          have HB5 := Lib.hid (HB4.out.trans (hb.mono HB4.out.size))
          clear hb HE4 HB4
          generalize hM : mm p [] = M
          have HM := Lib.hid hM
          clear hM
          go_wp2_with fail
          refine (yesB ae _ _ ([42] ++ p) [] w5 HE5.out (by simp) rfl (by simp; omega) (by simp)).mono ?_
          rintro e w6 ⟨rfl, hb⟩
          have HE6 := Lib.hid (HE5.out.on hb)
          have HB6 := Lib.hid (HB5.out.trans (hb.mono HB5.out.size))
          clear hb HE5 HB5
          rw [HF.out, HM.out]
          cases M with
          | false =>
            go_wp2
            go_ret
            exact ⟨rfl, HB6.out⟩
          | true =>
            go_wp2
            go_ret
            exact ⟨rfl, HB6.out⟩
        | cons c n =>
          have hnl2 : n.length + 1 ≤ 1048576 := hnl
          have hcz : (c :: n).isEmpty = false := rfl
          have HL := Lib.hid (HQ.out.2 c n HB.out)
          have hge := dec_ge (l := c :: n) (by simp)
          have hle := dec_le (c :: n)
          have HC : Hid ((cutsL (c :: n))[1]? = some (dec (c :: n)).2) := Lib.hid (by unfold cutsL; rw [cutsB_ne 0 _ (by simp), Nat.zero_add]; rfl)
          have hcl : 2 ≤ (cutsL (c :: n)).length := by
            rw [cutsL_len, runes_ne _ (by simp)]
            simp
          have hdl : ((c :: n).drop (dec (c :: n)).2).length ≤ 1048576 := by rw [List.length_drop]; simp; omega
          have HD : Hid (∀ e k, e = (c :: n).length → k = (dec (c :: n)).2 → ((⟨(c :: n).toArray⟩ : ByteArray).extract k e).data.toList = (c :: n).drop (dec (c :: n)).2) := Lib.hid (by
            rintro e k rfl rfl
            exact ba_drop _ _ _ rfl)
          clear HQ HB
          generalize (c :: n).drop (dec (c :: n)).2 = D at *
          generalize (dec (c :: n)).2 = K at *
          have hK1 : (K : Int) ≤ ((n.length + 1 : Nat) : Int) := by have : K ≤ n.length + 1 := hle; omega
          go_wp2_with fail
          refine (yesB ae _ _ p (c :: n) w4 HE4.out rfl rfl (by omega) (by simp; omega)).mono ?_
          rintro e w5 ⟨rfl, hb⟩
          have HE5 := Lib.hid (HE4.out.on hb)
          have HB5 := Lib.hid (HB4.out.trans (hb.mono HB4.out.size))
          clear hb HE4 HB4
          generalize hM : mm p (c :: n) = M
          have HM := Lib.hid hM
          clear hM
          by_cases c47 : c = 47
          · subst c47
            have HY : Hid (mm ([42] ++ p) (47 :: n) = M) := Lib.hid (by rw [HL.out, HM.out]; simp)
            clear HL HD HC HM
            go_wp2_with fail
            refine (yesB ae _ _ ([42] ++ p) (47 :: n) w5 HE5.out (by simp) rfl (by simp; omega) (by simp; omega)).mono ?_
            rintro e w6 ⟨rfl, hb⟩
            have HE6 := Lib.hid (HE5.out.on hb)
            have HB6 := Lib.hid (HB5.out.trans (hb.mono HB5.out.size))
            clear hb HE5 HB5
            rw [HY.out]
            cases M with
            | false =>
              go_wp2
              go_ret
              exact ⟨rfl, HB6.out⟩
            | true =>
              go_wp2
              go_ret
              exact ⟨rfl, HB6.out⟩
          · have hcb : (((c.toNat : Nat) : Int) != 47) = true := by
              have : c.toNat ≠ 47 := fun e => c47 (UInt8.toNat_inj.1 e)
              simp
              omega
            have hsz : 0 < (⟨(c :: n).toArray⟩ : ByteArray).size := by show 0 < n.length + 1; omega
            have hcb2 : (((((⟨(c :: n).toArray⟩ : ByteArray)[0]).toNat : Nat) : Int) != 47) = true := hcb
            have HY : Hid (mm ([42] ++ p) (c :: n) = (M || mm ([42] ++ p) D)) := Lib.hid (by rw [HL.out, HM.out, decide_eq_true c47, Bool.true_and])
            clear HL c47 HM
            have HZ : Hid (M = false → ∀ Y, mm ([42] ++ p) D = Y → mm ([42] ++ p) (c :: n) = Y) := Lib.hid (by rintro h Y rfl; rw [HY.out, h]; rfl)
            have HZT : Hid (M = true → mm ([42] ++ p) (c :: n) = true) := Lib.hid (by intro h; rw [HY.out, h]; rfl)
            clear HY
            cases M with
            | false =>
              have HZ2 := Lib.hid (HZ.out rfl)
              clear HZ HZT
              go_wp2_with fail
              refine (cuts_call ae (c :: n) w5 HE5.out (by simp; omega)).mono ?_
              rintro e w6 ⟨v, rfl, ⟨gg, cc, rfl, hcc, hcm, hgg, hcells⟩, hb⟩
              have HE6 := Lib.hid (HE5.out.on hb)
              have HB6 := Lib.hid (HB5.out.trans (hb.mono HB5.out.size))
              clear hb HE5 HB5
              unfold maxLen at hcm
              have hce := hcells 1 K HC.out
              clear hcells HC
              go_wp2_with fail
              refine (yesB ae _ _ ([42] ++ p) D w6 HE6.out (by simp) (HD.out _ _ (by rfl) (by rfl)) (by simp; omega) (by omega)).mono ?_
              rintro e w7 ⟨rfl, hb⟩
              have HE7 := Lib.hid (HE6.out.on hb)
              have HB7 := Lib.hid (HB6.out.trans (hb.mono HB6.out.size))
              clear hb HE6 HB6
              generalize hY : mm ([42] ++ p) D = Y
              have HY := Lib.hid hY
              clear hY
              have HY2 := Lib.hid (HZ2.out Y HY.out)
              clear HZ2 HY HD
              go_wp2_with fail
              refine (yesB ae _ _ ([42] ++ p) (c :: n) w7 HE7.out (by simp) rfl (by simp; omega) (by simp; omega)).mono ?_
              rintro e w8 ⟨rfl, hb⟩
              have HE8 := Lib.hid (HE7.out.on hb)
              have HB8 := Lib.hid (HB7.out.trans (hb.mono HB7.out.size))
              clear hb HE7 HB7
              rw [HY2.out]
              cases Y with
              | false =>
                go_wp2
                go_ret
                exact ⟨rfl, HB8.out⟩
              | true =>
                go_wp2
                go_ret
                exact ⟨rfl, HB8.out⟩
            | true =>
              have HY2 := Lib.hid (HZT.out rfl)
              clear HZ HZT HD HC
              go_wp2_with fail
              refine (yesB ae _ _ ([42] ++ p) (c :: n) w5 HE5.out (by simp) rfl (by simp; omega) (by simp; omega)).mono ?_
              rintro e w6 ⟨rfl, hb⟩
              have HE6 := Lib.hid (HE5.out.on hb)
              have HB6 := Lib.hid (HB5.out.trans (hb.mono HB5.out.size))
              clear hb HE5 HB5
              rw [HY2.out]
              go_wp2
              go_ret
              exact ⟨rfl, HB6.out⟩


set_option maxRecDepth 100000 in
theorem lifted (os : Os) (started : os.Started) (H : Type) (enc : TypeId × Value → H) :
    ReturnsInHanded {} Tryd.checked os 12 .any (fun w args => (Rows.fnStarHeadSpec.pre enc Tryd.prog Tryd.f12 Rows.fnStarHeadRow.domain false w args ∧ laidMetH Tryd.prog Rows.fnStarHeadRow.laid w) ∧ sizedMet enc Tryd.prog Tryd.f12 (OpenSpec.ofChange Rows.fnStarHeadSpec) false w args) (Rows.fnStarHeadSpec.post enc Tryd.prog Tryd.f12 false true false false) := by
  refine returnsInHanded_of_change_and (C := Tryd.checked) (X := fun w _ => laidMetH Tryd.prog Rows.fnStarHeadRow.laid w) (fun _ _ _ hh h => h.of_heap hh) own started (by kernel_rfl) Tryd.func12
    (ChangeSpec.witness_shaped (enc := enc) (C := Tryd.checked) (os := os) (X := fun w _ => laidMetH Tryd.prog Rows.fnStarHeadRow.laid w) false (World.laidAll Tryd.prog os Rows.fnStarHeadRow.laid) #[.slice none 0 0] 8 (World.laidAll_os _ _ _)
      (World.shaped_of_ZipB (by kernel_rfl) (by kernel_rfl)) (by kernel_rfl) (by kernel_rfl) (by kernel_rfl)
      (by rw [MakeChecks.laidMetH_plain _ _ _ (by kernel_rfl)]; exact laidMet_laidAll _ (by kernel_rfl) (by kernel_rfl))) ?_
  intro W base args ds gs before hval0 hW hcnd hsz0 hL _
  have hval : ∀ (j : Nat) t v, Tryd.f12.params[j]? = some t → args[j]? = some v → Value.okWide Tryd.prog W .any base t v := hval0
  have hW' := hW
  obtain ⟨p, q, hA0, hV, rfl, hfz, hnd⟩ := hW
  have hA : DataW.TrodAll enc Tryd.prog W 0 (fun _ => true) true Tryd.f12.params.toList args.toList ds p := hA0
  rw [Tryd.params12] at hA hval
  obtain ⟨v0, vs0, d0, ds0, p0, q0, hargs, rfl, rfl, h0, r0⟩ := trodAll_cons hA
  obtain ⟨rfl, rfl, rfl⟩ := trodAll_nil r0
  obtain rfl : args = #[v0] := by cases args; simp_all
  obtain ⟨rfl, rfl⟩ := trodVars_none hV
  obtain ⟨a0, len0, cap0, rfl⟩ := okWide_slice Tryd.underlying22 (hval 0 22 v0 rfl rfl)
  have k0 := h0
  have lt0 : ∀ x ∈ p0, x.block < W.heap.size := by obtain ⟨m, hm⟩ := k0; exact DataW.trod_lt m _ _ _ hm
  obtain ⟨z0, w0⟩ : ∃ zs, IsRow .u8 W a0 len0 cap0 zs := by
    obtain ⟨fuel, hf⟩ := h0
    rcases open_ints Tryd.underlying22 Tryd.underlying5 (by kernel_rfl) hf with ⟨hcs, _⟩ | ⟨x, l, c, zs, hcs, _, hl, hm, hz, _, hcell, hwz⟩
    · simp [Value.cells] at hcs
      obtain ⟨rfl, rfl, rfl⟩ := hcs
      exact ⟨[], .inl ⟨rfl, rfl, rfl, rfl⟩⟩
    · simp [Value.cells] at hcs
      obtain ⟨rfl, rfl, rfl⟩ := hcs
      exact ⟨zs, .inr ⟨_, rfl, hl, hm, by simpa using hz, hcell, hwz⟩⟩
  obtain ⟨ae, hE⟩ := env_of hL
  clear hA0 hval0
  refine (walk a0 len0 cap0 z0 W w0 ae hE).mono fun e W' ⟨he, bel⟩ => ?_
  subst he
  exact ⟨_, rfl, _, _, _, [], _, [], hW', trodAll_mk1 (shut_bool Tryd.underlying4 _), (trodAll_cons_mk (Below.trod laidOut (by kernel_rfl) (of_decide_eq_true (by kernel_rfl)) k0 bel lt0) trodAll_mk0), rfl, bel.frame _, fun h => by cases h⟩

theorem over : Rows.fnStarHeadRow.holds Tryd.pinned (OpenSpec.ofChange Rows.fnStarHeadSpec) :=
  OpenClaim.holds_of_wide 12 Tryd.f12 rfl rfl rfl rfl rfl rfl rfl ⟨rfl, rfl, rfl, rfl, rfl⟩ rfl rfl rfl rfl rfl (by kernel_rfl) Tryd.func12 (by kernel_rfl)
    (of_decide_eq_true (by kernel_rfl)) (by unfold Func.isWrapper; first | (rw [if_pos (by decide +kernel)]; kernel_rfl) | (rw [if_neg (by decide +kernel)]; exact ⟨rfl, rfl⟩))
    (fun os started H enc _ => lifted os started H enc)

theorem proved : Rows.FnStarHeadCardSaid :=
  Claim7.holds_tied_plain_at .later [] Rows.fnStarHeadCard.laidKinds true Rows.fnStarHeadCard.stood.harness true over (fun _ h => by cases h) (by kernel_rfl) (fun _ h => by cases h) fnStarHead_row_tie rfl ⟨rfl, rfl⟩ (by kernel_rfl) rfl
    (fun f fn hf hfn => by
      obtain rfl : f = 12 := Option.some.inj ((show Tryd.prog.funcNamed Rows.fnStarHeadRow.func = some 12 by kernel_rfl).symm.trans hf) |>.symm
      obtain rfl : fn = Tryd.f12 := (Option.some.inj (Tryd.func12.symm.trans hfn)).symm
      exact ⟨by kernel_rfl, fun j t ht => by
        rw [Tryd.params12] at ht
        have hm : t ∈ [22] := by simpa using Array.mem_of_getElem? ht
        have hall : ([22].all fun u => !Tryd.prog.wantsStandIn u) = true := by kernel_rfl
        exact (show Tryd.prog.wantsStandIn t = false by simpa using List.all_eq_true.1 hall t hm)⟩)
    (by kernel_rfl)
end Go.Proofs.YtefkgdbmndhebaaDoor.fnStarHead


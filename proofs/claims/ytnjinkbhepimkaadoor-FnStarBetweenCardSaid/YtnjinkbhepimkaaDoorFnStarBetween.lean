/-
  A star between two texts matches exactly the names that begin with the one and end with the other one, without a slash between them: the law returns true for every input and leaves it as it was. Conditions: none.
  The frame round the walk is the kit's own (proof-skeleton.mjs).
-/
import Derived.Test.YtnjinkbhepimkaaDoorRows
import Derived.Test.YtnjinkbhepimkaaDoorLawG
import Derived.Test.YtnjinkbhepimkaaDoorTie
import Derived.Test.YtnjinkbhepimkaaDoorCards
import Derived.Test.YtnjinkbhepimkaaDoorLaid
import Derived.LaidMore
import Derived.Lay
import Derived.SevenTiedAt
import Derived.Stop.Joined
namespace Go.Proofs.YtnjinkbhepimkaaDoor.fnStarBetween
open Go.ChangeShapes Go.WideShapes Go.ChangeAt Go.RowKit
open Go.ChangeMaps (open_string shut_string)
set_option linter.unusedVariables false

set_option maxHeartbeats 2000000 in
theorem walk (a : Option Addr) (len cap : Nat) (zs : List Int) (w : World) (hr : IsRow .u8 w a len cap zs) (ae : Addr) (hE : Env ae w) :
    Calls Tryd.prog 13 #[.slice a len cap] w fun e w' => e = .returned (.bool true) ∧ Below w.heap.size w w' := by
  have HR := Lib.hid hr
  have HE := Lib.hid hE
  clear hr hE
  by_cases hlen : 1048576 < len
  · have hl' : (1048576 : Int) < len := by omega
    go_enter Tryd.func13, Tryd.ntmps13
    go_wp2
    go_ret
    exact ⟨rfl, Below.refl _ _⟩
  · have hl' : ¬ (1048576 : Int) < len := by omega
    go_enter Tryd.func13, Tryd.ntmps13
    go_wp2_with fail
    refine (drawThree_any a len cap zs _ HR.out (by omega)).mono ?_
    rintro e w1 ⟨p, q, n, rfl, hpl, hql, hnl, hb⟩
    have HE1 := Lib.hid (HE.out.on hb)
    have HB1 := Lib.hid hb
    clear hb HR HE
    go_wp2_with fail
    refine (validB ae _ p w1 HE1.out rfl (by omega)).mono ?_
    rintro e w2 ⟨rfl, hb⟩
    have HE2 := Lib.hid (HE1.out.on hb)
    have HB2 := Lib.hid (HB1.out.trans (hb.mono HB1.out.size))
    clear hb HE1 HB1
    generalize hA : Lib.validD p = A
    have HA := Lib.hid hA
    clear hA
    cases A with
    | false =>
      go_wp2
      go_ret
      exact ⟨rfl, HB2.out⟩
    | true =>
      go_wp2_with fail
      refine (validB ae _ q w2 HE2.out rfl (by omega)).mono ?_
      rintro e w3 ⟨rfl, hb⟩
      have HE3 := Lib.hid (HE2.out.on hb)
      have HB3 := Lib.hid (HB2.out.trans (hb.mono HB2.out.size))
      clear hb HE2 HB2
      generalize hB : Lib.validD q = B
      have HB := Lib.hid hB
      clear hB
      cases B with
      | false =>
        go_wp2
        go_ret
        exact ⟨rfl, HB3.out⟩
      | true =>
        go_wp2_with fail
        refine (validB ae _ n w3 HE3.out rfl (by omega)).mono ?_
        rintro e w4 ⟨rfl, hb⟩
        have HE4 := Lib.hid (HE3.out.on hb)
        have HB4 := Lib.hid (HB3.out.trans (hb.mono HB3.out.size))
        clear hb HE3 HB3
        generalize hC : Lib.validD n = C
        have HC := Lib.hid hC
        clear hC
        cases C with
        | false =>
          go_wp2
          go_ret
          exact ⟨rfl, HB4.out⟩
        | true =>
          have hl := law_starBetween HA.out HB.out HC.out
          have hp2 := quoteB_len p
          have hq2 := quoteB_len q
          obtain ⟨P, hP⟩ : ∃ P, P = quoteB p := ⟨_, rfl⟩
          obtain ⟨Q, hQ⟩ : ∃ Q, Q = quoteB q := ⟨_, rfl⟩
          rw [← hP, ← hQ] at hl
          rw [← hP] at hp2
          rw [← hQ] at hq2
          have HPE := Lib.hid hP.symm
          have HQE := Lib.hid hQ.symm
          have HBB := Lib.hid hl.1
          have HL := Lib.hid hl.2
          clear hl hP hQ HA HB HC
          by_cases hle : p.length + q.length ≤ n.length
          · have HM := Lib.hid (HL.out.2 hle)
            clear HL
            have z1 : (p.length : Int) + (q.length : Int) ≤ (n.length : Int) := by omega
            have z2 : (p.length : Int) ≤ (n.length : Int) - (q.length : Int) := by omega
            have z3 : (n.length : Int) - (q.length : Int) ≤ (n.length : Int) := by omega
            go_wp2_with fail
            refine (hasPrefixB _ _ n p w4 rfl rfl).mono ?_
            rintro e w5 ⟨rfl, hb⟩
            have HE5 := Lib.hid (HE4.out.on hb)
            have HB5 := Lib.hid (HB4.out.trans (hb.mono HB4.out.size))
            clear hb HE4 HB4
            generalize hX : p.isPrefixOf n = X
            have HX := Lib.hid hX
            clear hX
            cases X with
            | false =>
              have HM2 : Hid (mm (P ++ [42] ++ Q) n = false) := Lib.hid (by rw [HM.out, HX.out]; rfl)
              clear HM HX
              go_wp2_with fail
              refine (quoteCB _ p w5 rfl (by omega)).mono ?_
              rintro e w6 ⟨rfl, hb⟩
              have HE6 := Lib.hid (HE5.out.on hb)
              have HB6 := Lib.hid (HB5.out.trans (hb.mono HB5.out.size))
              clear hb HE5 HB5
              rw [HPE.out]
              go_wp2_with fail
              refine (quoteCB _ q w6 rfl (by omega)).mono ?_
              rintro e w7 ⟨rfl, hb⟩
              have HE7 := Lib.hid (HE6.out.on hb)
              have HB7 := Lib.hid (HB6.out.trans (hb.mono HB6.out.size))
              clear hb HE6 HB6
              rw [HQE.out]
              go_wp2_with fail
              refine (matchB ae _ _ (P ++ [42] ++ Q) n w7 HE7.out (by simp) rfl (by simp; omega) (by omega)).mono ?_
              rintro e w8 ⟨rfl, hb⟩
              have HE8 := Lib.hid (HE7.out.on hb)
              have HB8 := Lib.hid (HB7.out.trans (hb.mono HB7.out.size))
              clear hb HE7 HB7
              rw [HM2.out, HBB.out]
              go_wp2
              go_ret
              exact ⟨rfl, HB8.out⟩
            | true =>
              have HM2 : Hid (mm (P ++ [42] ++ Q) n = (q.isSuffixOf n && !((n.drop p.length).take (n.length - q.length - p.length)).contains 47)) := Lib.hid (by rw [HM.out, HX.out]; rfl)
              clear HM HX
              go_wp2_with fail
              refine (hasSuffixB _ _ n q w5 rfl rfl (by omega)).mono ?_
              rintro e w6 ⟨rfl, hb⟩
              have HE6 := Lib.hid (HE5.out.on hb)
              have HB6 := Lib.hid (HB5.out.trans (hb.mono HB5.out.size))
              clear hb HE5 HB5
              generalize hY : q.isSuffixOf n = Y
              have HY := Lib.hid hY
              clear hY
              cases Y with
              | false =>
                have HM3 : Hid (mm (P ++ [42] ++ Q) n = false) := Lib.hid (by rw [HM2.out, HY.out]; rfl)
                clear HM2 HY
                go_wp2_with fail
                refine (quoteCB _ p w6 rfl (by omega)).mono ?_
                rintro e w7 ⟨rfl, hb⟩
                have HE7 := Lib.hid (HE6.out.on hb)
                have HB7 := Lib.hid (HB6.out.trans (hb.mono HB6.out.size))
                clear hb HE6 HB6
                rw [HPE.out]
                go_wp2_with fail
                refine (quoteCB _ q w7 rfl (by omega)).mono ?_
                rintro e w8 ⟨rfl, hb⟩
                have HE8 := Lib.hid (HE7.out.on hb)
                have HB8 := Lib.hid (HB7.out.trans (hb.mono HB7.out.size))
                clear hb HE7 HB7
                rw [HQE.out]
                go_wp2_with fail
                refine (matchB ae _ _ (P ++ [42] ++ Q) n w8 HE8.out (by simp) rfl (by simp; omega) (by omega)).mono ?_
                rintro e w9 ⟨rfl, hb⟩
                have HE9 := Lib.hid (HE8.out.on hb)
                have HB9 := Lib.hid (HB8.out.trans (hb.mono HB8.out.size))
                clear hb HE8 HB8
                rw [HM3.out, HBB.out]
                go_wp2
                go_ret
                exact ⟨rfl, HB9.out⟩
              | true =>
                have HM3 : Hid (mm (P ++ [42] ++ Q) n = !((n.drop p.length).take (n.length - q.length - p.length)).contains 47) := Lib.hid (by rw [HM2.out, HY.out]; rfl)
                clear HM2 HY
                have HMD : Hid (∀ a e, a = p.length → e = n.length - q.length → ((⟨n.toArray⟩ : ByteArray).extract a e).data.toList = (n.drop p.length).take (n.length - q.length - p.length)) := Lib.hid (by rintro a e rfl rfl; exact ba_mid n _ _)
                go_wp2_with fail
                refine (slashB _ ((n.drop p.length).take (n.length - q.length - p.length)) w6 (HMD.out _ _ (by first | rfl | omega | simp) (by first | rfl | omega | simp))).mono ?_
                rintro e w7 ⟨rfl, hb⟩
                have HE7 := Lib.hid (HE6.out.on hb)
                have HB7 := Lib.hid (HB6.out.trans (hb.mono HB6.out.size))
                clear hb HE6 HB6
                generalize ((n.drop p.length).take (n.length - q.length - p.length)).contains 47 = Z at *
                clear HMD
                go_wp2_with fail
                refine (quoteCB _ p w7 rfl (by omega)).mono ?_
                rintro e w8 ⟨rfl, hb⟩
                have HE8 := Lib.hid (HE7.out.on hb)
                have HB8 := Lib.hid (HB7.out.trans (hb.mono HB7.out.size))
                clear hb HE7 HB7
                rw [HPE.out]
                go_wp2_with fail
                refine (quoteCB _ q w8 rfl (by omega)).mono ?_
                rintro e w9 ⟨rfl, hb⟩
                have HE9 := Lib.hid (HE8.out.on hb)
                have HB9 := Lib.hid (HB8.out.trans (hb.mono HB8.out.size))
                clear hb HE8 HB8
                rw [HQE.out]
                go_wp2_with fail
                refine (matchB ae _ _ (P ++ [42] ++ Q) n w9 HE9.out (by simp) rfl (by simp; omega) (by omega)).mono ?_
                rintro e w10 ⟨rfl, hb⟩
                have HE10 := Lib.hid (HE9.out.on hb)
                have HB10 := Lib.hid (HB9.out.trans (hb.mono HB9.out.size))
                clear hb HE9 HB9
                rw [HM3.out, HBB.out]
                cases Z with
                | false =>
                  go_wp2
                  go_ret
                  exact ⟨rfl, HB10.out⟩
                | true =>
                  go_wp2
                  go_ret
                  exact ⟨rfl, HB10.out⟩
          · have HM := Lib.hid (HL.out.1 (by omega))
            clear HL
            have z1 : ¬ ((p.length : Int) + (q.length : Int) ≤ (n.length : Int)) := by omega
            go_wp2_with fail
            refine (quoteCB _ p w4 rfl (by omega)).mono ?_
            rintro e w5 ⟨rfl, hb⟩
            have HE5 := Lib.hid (HE4.out.on hb)
            have HB5 := Lib.hid (HB4.out.trans (hb.mono HB4.out.size))
            clear hb HE4 HB4
            rw [HPE.out]
            go_wp2_with fail
            refine (quoteCB _ q w5 rfl (by omega)).mono ?_
            rintro e w6 ⟨rfl, hb⟩
            have HE6 := Lib.hid (HE5.out.on hb)
            have HB6 := Lib.hid (HB5.out.trans (hb.mono HB5.out.size))
            clear hb HE5 HB5
            rw [HQE.out]
            go_wp2_with fail
            refine (matchB ae _ _ (P ++ [42] ++ Q) n w6 HE6.out (by simp) rfl (by simp; omega) (by omega)).mono ?_
            rintro e w7 ⟨rfl, hb⟩
            have HE7 := Lib.hid (HE6.out.on hb)
            have HB7 := Lib.hid (HB6.out.trans (hb.mono HB6.out.size))
            clear hb HE6 HB6
            rw [HM.out, HBB.out]
            go_wp2
            go_ret
            exact ⟨rfl, HB7.out⟩


set_option maxRecDepth 100000 in
theorem lifted (os : Os) (started : os.Started) (H : Type) (enc : TypeId × Value → H) :
    ReturnsInHanded {} Tryd.checked os 13 .any (fun w args => (Rows.fnStarBetweenSpec.pre enc Tryd.prog Tryd.f13 Rows.fnStarBetweenRow.domain false w args ∧ laidMetH Tryd.prog Rows.fnStarBetweenRow.laid w) ∧ sizedMet enc Tryd.prog Tryd.f13 (OpenSpec.ofChange Rows.fnStarBetweenSpec) false w args) (Rows.fnStarBetweenSpec.post enc Tryd.prog Tryd.f13 false true false false) := by
  refine returnsInHanded_of_change_and (C := Tryd.checked) (X := fun w _ => laidMetH Tryd.prog Rows.fnStarBetweenRow.laid w) (fun _ _ _ hh h => h.of_heap hh) own started (by kernel_rfl) Tryd.func13
    (ChangeSpec.witness_shaped (enc := enc) (C := Tryd.checked) (os := os) (X := fun w _ => laidMetH Tryd.prog Rows.fnStarBetweenRow.laid w) false (World.laidAll Tryd.prog os Rows.fnStarBetweenRow.laid) #[.slice none 0 0] 8 (World.laidAll_os _ _ _)
      (World.shaped_of_ZipB (by kernel_rfl) (by kernel_rfl)) (by kernel_rfl) (by kernel_rfl) (by kernel_rfl)
      (by rw [MakeChecks.laidMetH_plain _ _ _ (by kernel_rfl)]; exact laidMet_laidAll _ (by kernel_rfl) (by kernel_rfl))) ?_
  intro W base args ds gs before hval0 hW hcnd hsz0 hL _
  have hval : ∀ (j : Nat) t v, Tryd.f13.params[j]? = some t → args[j]? = some v → Value.okWide Tryd.prog W .any base t v := hval0
  have hW' := hW
  obtain ⟨p, q, hA0, hV, rfl, hfz, hnd⟩ := hW
  have hA : DataW.TrodAll enc Tryd.prog W 0 (fun _ => true) true Tryd.f13.params.toList args.toList ds p := hA0
  rw [Tryd.params13] at hA hval
  obtain ⟨v0, vs0, d0, ds0, p0, q0, hargs, rfl, rfl, h0, r0⟩ := trodAll_cons hA
  obtain ⟨rfl, rfl, rfl⟩ := trodAll_nil r0
  obtain rfl : args = #[v0] := by cases args; simp_all
  obtain ⟨rfl, rfl⟩ := trodVars_none hV
  obtain ⟨a0, len0, cap0, rfl⟩ := okWide_slice Tryd.underlying22 (hval 0 22 v0 rfl rfl)
  have k0 := h0
  have lt0 : ∀ x ∈ p0, x.block < W.heap.size := by obtain ⟨m, hm⟩ := k0; exact DataW.trod_lt m _ _ _ hm
  obtain ⟨z0, w0⟩ : ∃ zs, IsRow .u8 W a0 len0 cap0 zs := by
    obtain ⟨fuel, hf⟩ := h0
    rcases open_ints Tryd.underlying22 Tryd.underlying5 (by kernel_rfl) hf with ⟨hcs, _⟩ | ⟨x, l, c, zs, hcs, _, hl, hm, hz, _, hcell, hwz⟩
    · simp [Value.cells] at hcs
      obtain ⟨rfl, rfl, rfl⟩ := hcs
      exact ⟨[], .inl ⟨rfl, rfl, rfl, rfl⟩⟩
    · simp [Value.cells] at hcs
      obtain ⟨rfl, rfl, rfl⟩ := hcs
      exact ⟨zs, .inr ⟨_, rfl, hl, hm, by simpa using hz, hcell, hwz⟩⟩
  obtain ⟨ae, hE⟩ := env_of hL
  clear hA0 hval0
  refine (walk a0 len0 cap0 z0 W w0 ae hE).mono fun e W' ⟨he, bel⟩ => ?_
  subst he
  exact ⟨_, rfl, _, _, _, [], _, [], hW', trodAll_mk1 (shut_bool Tryd.underlying4 _), (trodAll_cons_mk (Below.trod laidOut (by kernel_rfl) (of_decide_eq_true (by kernel_rfl)) k0 bel lt0) trodAll_mk0), rfl, bel.frame _, fun h => by cases h⟩

theorem over : Rows.fnStarBetweenRow.holds Tryd.pinned (OpenSpec.ofChange Rows.fnStarBetweenSpec) :=
  OpenClaim.holds_of_wide 13 Tryd.f13 rfl rfl rfl rfl rfl rfl rfl ⟨rfl, rfl, rfl, rfl, rfl⟩ rfl rfl rfl rfl rfl (by kernel_rfl) Tryd.func13 (by kernel_rfl)
    (of_decide_eq_true (by kernel_rfl)) (by unfold Func.isWrapper; first | (rw [if_pos (by decide +kernel)]; kernel_rfl) | (rw [if_neg (by decide +kernel)]; exact ⟨rfl, rfl⟩))
    (fun os started H enc _ => lifted os started H enc)

theorem proved : Rows.FnStarBetweenCardSaid :=
  Claim7.holds_tied_plain_at .later [] Rows.fnStarBetweenCard.laidKinds true Rows.fnStarBetweenCard.stood.harness true over (fun _ h => by cases h) (by kernel_rfl) (fun _ h => by cases h) fnStarBetween_row_tie rfl ⟨rfl, rfl⟩ (by kernel_rfl) rfl
    (fun f fn hf hfn => by
      obtain rfl : f = 13 := Option.some.inj ((show Tryd.prog.funcNamed Rows.fnStarBetweenRow.func = some 13 by kernel_rfl).symm.trans hf) |>.symm
      obtain rfl : fn = Tryd.f13 := (Option.some.inj (Tryd.func13.symm.trans hfn)).symm
      exact ⟨by kernel_rfl, fun j t ht => by
        rw [Tryd.params13] at ht
        have hm : t ∈ [22] := by simpa using Array.mem_of_getElem? ht
        have hall : ([22].all fun u => !Tryd.prog.wantsStandIn u) = true := by kernel_rfl
        exact (show Tryd.prog.wantsStandIn t = false by simpa using List.all_eq_true.1 hall t hm)⟩)
    (by kernel_rfl)
end Go.Proofs.YtnjinkbhepimkaaDoor.fnStarBetween


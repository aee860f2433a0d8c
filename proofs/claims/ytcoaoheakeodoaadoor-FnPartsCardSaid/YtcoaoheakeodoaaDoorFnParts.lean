/-
  Of decided pairs, patterns that match no slash, with slashes between them, match names without slashes, with slashes between them, exactly if each matches its own: the law returns true for every input and leaves it as it was. Conditions: none.
  The frame round the walk is the kit's own (proof-skeleton.mjs).
-/
import Derived.Test.YtcoaoheakeodoaaDoorRows
import Derived.Test.YtcoaoheakeodoaaDoorPiec
import Derived.Test.YtcoaoheakeodoaaDoorTie
import Derived.Test.YtcoaoheakeodoaaDoorCards
import Derived.Test.YtcoaoheakeodoaaDoorLaid
import Derived.LaidMore
import Derived.Lay
import Derived.SevenTiedAt
import Derived.Stop.Joined
namespace Go.Proofs.YtcoaoheakeodoaaDoor.fnParts
open Go.ChangeShapes Go.WideShapes Go.ChangeAt Go.RowKit
open Go.ChangeMaps (open_string shut_string)
set_option linter.unusedVariables false

theorem dec_open : decdB [91] [] = false := by
  unfold decdB soundB
  rw [wf_open]
  rfl
set_option maxHeartbeats 2000000 in
theorem walk (a : Option Addr) (len cap : Nat) (zs : List Int) (w : World) (hr : IsRow .u8 w a len cap zs) (ae : Addr) (hE : Env ae w) :
    Calls Tryd.prog 5 #[.slice a len cap] w fun e w' => e = .returned (.bool true) ∧ Below w.heap.size w w' := by
  have HR := Lib.hid hr
  have HE := Lib.hid hE
  clear hr hE
  by_cases hlen : 1048576 < len
  · have hl' : (1048576 : Int) < len := by omega
    go_enter Tryd.func5, Tryd.ntmps5
    go_wp2
    go_ret
    exact ⟨rfl, Below.refl _ _⟩
  · have hl' : ¬ (1048576 : Int) < len := by omega
    go_enter Tryd.func5, Tryd.ntmps5
    go_wp2_with fail
    refine (drawPieces_any a len cap zs _ HR.out (by omega)).mono ?_
    rintro e w1 ⟨v, ss, rfl, hO, ht, hb⟩
    obtain ⟨xs, hL, hlx⟩ := hO.lists
    have HE1 := Lib.hid (HE.out.on hb)
    have HB1 := Lib.hid hb
    have HL1 := Lib.hid hL
    obtain ⟨g, cp, rfl, _⟩ := hL.shape
    clear hb HR HE hO hL
    go_wp2_with fail
    refine (yesStar ae w1 HE1.out).mono ?_
    rintro e w2 ⟨rfl, hb⟩
    have HE2 := Lib.hid (HE1.out.on hb)
    have HB2 := Lib.hid (HB1.out.trans (hb.mono HB1.out.size))
    have HL2 := Lib.hid (HL1.out.below hb (fun k hk => (HL1.out.blk k hk).2))
    clear hb HE1 HB1 HL1
    have hps := prs_lens xs
    have hpl := prs_len xs
    have hl1 := J_len ((prs xs).map (·.1))
    have hl2 := J_len ((prs xs).map (·.2))
    rw [List.length_map] at hl1 hl2
    go_wp2_with fail
    refine (pieces_call ae w.heap.size _ xs w2 HL2.out HE2.out (by omega)).mono ?_
    rintro e w3 ⟨hb, hpi⟩
    have HE3 := Lib.hid (HE2.out.on hb)
    have HB3 := Lib.hid (HB2.out.trans (hb.mono HB2.out.size))
    clear hb HE2 HB2 HL2
    rcases hpi with ⟨hP, rfl⟩ | rfl
    · have hP1 : (ppat (prs xs)).length ≤ 3000000 := by show (J _).length ≤ _; omega
      have hP2 : (pname (prs xs)).length ≤ 3000000 := by show (J _).length ≤ _; omega
      have HL := Lib.hid (fun hd => law_parts hP hd)
      clear hP hl1 hl2 hps
      generalize ppat (prs xs) = P at *
      generalize pname (prs xs) = N at *
      generalize pwant (prs xs) = WT at *
      go_wp2_with fail
      refine (decidedCB ae _ _ P N w3 HE3.out rfl rfl (by omega) (by omega)).mono ?_
      rintro e w4 ⟨rfl, hb⟩
      have HE4 := Lib.hid (HE3.out.on hb)
      have HB4 := Lib.hid (HB3.out.trans (hb.mono HB3.out.size))
      clear hb HE3 HB3
      generalize hD : decdB P N = D
      have HD := Lib.hid hD
      clear hD
      cases D with
      | false =>
        go_wp2
        go_ret
        exact ⟨rfl, HB4.out⟩
      | true =>
        have H1 := Lib.hid (HL.out HD.out).1
        have H2 := Lib.hid (HL.out HD.out).2.1
        have H3 := Lib.hid (HL.out HD.out).2.2
        clear HL HD
        go_wp2_with fail
        refine (yesB ae _ _ P N w4 HE4.out rfl rfl (by omega) (by omega)).mono ?_
        rintro e w5 ⟨rfl, hb⟩
        rw [H1.out]
        have HE5 := Lib.hid (HE4.out.on hb)
        have HB5 := Lib.hid (HB4.out.trans (hb.mono HB4.out.size))
        clear hb HE4 HB4 H1
        cases WT
        all_goals
          go_wp2_with fail
          refine (yesB ae _ _ P (N ++ [47, 97]) w5 HE5.out rfl (by simp) (by omega) (by rw [List.length_append]; simp; omega)).mono ?_
          rintro e w6 ⟨rfl, hb⟩
          rw [H2.out]
          have HE6 := Lib.hid (HE5.out.on hb)
          have HB6 := Lib.hid (HB5.out.trans (hb.mono HB5.out.size))
          clear hb HE5 HB5 H2
          go_wp2_with fail
          refine (yesB ae _ _ (P ++ [47, 42]) N w6 HE6.out (by simp) rfl (by rw [List.length_append]; simp; omega) (by omega)).mono ?_
          rintro e w7 ⟨rfl, hb⟩
          rw [H3.out]
          have HB7 := Lib.hid (HB6.out.trans (hb.mono HB6.out.size))
          clear hb HE6 HB6 H3
          go_wp2
          go_ret
          exact ⟨rfl, HB7.out⟩
    · go_wp2_with fail
      refine (decidedCB ae _ _ [91] [] w3 HE3.out rfl rfl (by simp) (by simp)).mono ?_
      rintro e w4 ⟨rfl, hb⟩
      have HB4 := Lib.hid (HB3.out.trans (hb.mono HB3.out.size))
      rw [dec_open]
      clear hb HE3 HB3
      go_wp2
      go_ret
      exact ⟨rfl, HB4.out⟩


set_option maxRecDepth 100000 in
theorem lifted (os : Os) (started : os.Started) (H : Type) (enc : TypeId × Value → H) :
    ReturnsInHanded {} Tryd.checked os 5 .any (fun w args => (Rows.fnPartsSpec.pre enc Tryd.prog Tryd.f5 Rows.fnPartsRow.domain false w args ∧ laidMetH Tryd.prog Rows.fnPartsRow.laid w) ∧ sizedMet enc Tryd.prog Tryd.f5 (OpenSpec.ofChange Rows.fnPartsSpec) false w args) (Rows.fnPartsSpec.post enc Tryd.prog Tryd.f5 false true false false) := by
  refine returnsInHanded_of_change_and (C := Tryd.checked) (X := fun w _ => laidMetH Tryd.prog Rows.fnPartsRow.laid w) (fun _ _ _ hh h => h.of_heap hh) own started (by kernel_rfl) Tryd.func5
    (ChangeSpec.witness_shaped (enc := enc) (C := Tryd.checked) (os := os) (X := fun w _ => laidMetH Tryd.prog Rows.fnPartsRow.laid w) false (World.laidAll Tryd.prog os Rows.fnPartsRow.laid) #[.slice none 0 0] 8 (World.laidAll_os _ _ _)
      (World.shaped_of_ZipB (by kernel_rfl) (by kernel_rfl)) (by kernel_rfl) (by kernel_rfl) (by kernel_rfl)
      (by rw [MakeChecks.laidMetH_plain _ _ _ (by kernel_rfl)]; exact laidMet_laidAll _ (by kernel_rfl) (by kernel_rfl))) ?_
  intro W base args ds gs before hval0 hW hcnd hsz0 hL _
  have hval : ∀ (j : Nat) t v, Tryd.f5.params[j]? = some t → args[j]? = some v → Value.okWide Tryd.prog W .any base t v := hval0
  have hW' := hW
  obtain ⟨p, q, hA0, hV, rfl, hfz, hnd⟩ := hW
  have hA : DataW.TrodAll enc Tryd.prog W 0 (fun _ => true) true Tryd.f5.params.toList args.toList ds p := hA0
  rw [Tryd.params5] at hA hval
  obtain ⟨v0, vs0, d0, ds0, p0, q0, hargs, rfl, rfl, h0, r0⟩ := trodAll_cons hA
  obtain ⟨rfl, rfl, rfl⟩ := trodAll_nil r0
  obtain rfl : args = #[v0] := by cases args; simp_all
  obtain ⟨rfl, rfl⟩ := trodVars_none hV
  obtain ⟨a0, len0, cap0, rfl⟩ := okWide_slice Tryd.underlying22 (hval 0 22 v0 rfl rfl)
  have k0 := h0
  have lt0 : ∀ x ∈ p0, x.block < W.heap.size := by obtain ⟨m, hm⟩ := k0; exact DataW.trod_lt m _ _ _ hm
  obtain ⟨z0, w0⟩ : ∃ zs, IsRow .u8 W a0 len0 cap0 zs := by
    obtain ⟨fuel, hf⟩ := h0
    rcases open_ints Tryd.underlying22 Tryd.underlying5 (by kernel_rfl) hf with ⟨hcs, _⟩ | ⟨x, l, c, zs, hcs, _, hl, hm, hz, _, hcell, hwz⟩
    · simp [Value.cells] at hcs
      obtain ⟨rfl, rfl, rfl⟩ := hcs
      exact ⟨[], .inl ⟨rfl, rfl, rfl, rfl⟩⟩
    · simp [Value.cells] at hcs
      obtain ⟨rfl, rfl, rfl⟩ := hcs
      exact ⟨zs, .inr ⟨_, rfl, hl, hm, by simpa using hz, hcell, hwz⟩⟩
  obtain ⟨ae, hE⟩ := env_of hL
  clear hA0 hval0
  refine (walk a0 len0 cap0 z0 W w0 ae hE).mono fun e W' ⟨he, bel⟩ => ?_
  subst he
  exact ⟨_, rfl, _, _, _, [], _, [], hW', trodAll_mk1 (shut_bool Tryd.underlying4 _), (trodAll_cons_mk (Below.trod laidOut (by kernel_rfl) (of_decide_eq_true (by kernel_rfl)) k0 bel lt0) trodAll_mk0), rfl, bel.frame _, fun h => by cases h⟩

theorem over : Rows.fnPartsRow.holds Tryd.pinned (OpenSpec.ofChange Rows.fnPartsSpec) :=
  OpenClaim.holds_of_wide 5 Tryd.f5 rfl rfl rfl rfl rfl rfl rfl ⟨rfl, rfl, rfl, rfl, rfl⟩ rfl rfl rfl rfl rfl (by kernel_rfl) Tryd.func5 (by kernel_rfl)
    (of_decide_eq_true (by kernel_rfl)) (by unfold Func.isWrapper; first | (rw [if_pos (by decide +kernel)]; kernel_rfl) | (rw [if_neg (by decide +kernel)]; exact ⟨rfl, rfl⟩))
    (fun os started H enc _ => lifted os started H enc)

theorem proved : Rows.FnPartsCardSaid :=
  Claim7.holds_tied_plain_at .later [] Rows.fnPartsCard.laidKinds true Rows.fnPartsCard.stood.harness true over (fun _ h => by cases h) (by kernel_rfl) (fun _ h => by cases h) fnParts_row_tie rfl ⟨rfl, rfl⟩ (by kernel_rfl) rfl
    (fun f fn hf hfn => by
      obtain rfl : f = 5 := Option.some.inj ((show Tryd.prog.funcNamed Rows.fnPartsRow.func = some 5 by kernel_rfl).symm.trans hf) |>.symm
      obtain rfl : fn = Tryd.f5 := (Option.some.inj (Tryd.func5.symm.trans hfn)).symm
      exact ⟨by kernel_rfl, fun j t ht => by
        rw [Tryd.params5] at ht
        have hm : t ∈ [22] := by simpa using Array.mem_of_getElem? ht
        have hall : ([22].all fun u => !Tryd.prog.wantsStandIn u) = true := by kernel_rfl
        exact (show Tryd.prog.wantsStandIn t = false by simpa using List.all_eq_true.1 hall t hm)⟩)
    (by kernel_rfl)
end Go.Proofs.YtcoaoheakeodoaaDoor.fnParts


/-
  Dir of a Clean path with backslashes, a slash and a star match the path, or the slash and the star do, or the star alone: the law returns true for every input and leaves it as it was. Conditions: none.
  The frame round the walk is the kit's own (proof-skeleton.mjs).
-/
import Derived.Test.YtpmgemlfpihdbaaDoorRows
import Derived.Test.YtpmgemlfpihdbaaDoorLawM
import Derived.Test.YtpmgemlfpihdbaaDoorPathC
import Derived.Test.YtpmgemlfpihdbaaDoorTie
import Derived.Test.YtpmgemlfpihdbaaDoorCards
import Derived.Test.YtpmgemlfpihdbaaDoorLaid
import Derived.LaidMore
import Derived.Lay
import Derived.SevenTiedAt
import Derived.Stop.Joined
namespace Go.Proofs.YtpmgemlfpihdbaaDoor.fnDirMatch
open Go.ChangeShapes Go.WideShapes Go.ChangeAt Go.RowKit
open Go.ChangeMaps (open_string shut_string)
set_option linter.unusedVariables false

set_option maxHeartbeats 2000000 in
theorem walk (a : Option Addr) (len cap : Nat) (zs : List Int) (w : World) (hr : IsRow .u8 w a len cap zs) (ae : Addr) (hE : Env ae w) :
    Calls Tryd.prog 5 #[.slice a len cap] w fun e w' => e = .returned (.bool true) ∧ Below w.heap.size w w' := by
  have HR := Lib.hid hr
  have HE := Lib.hid hE
  clear hr hE
  by_cases hlen : 1048576 < len
  · have hl' : (1048576 : Int) < len := by omega
    go_enter Tryd.func5, Tryd.ntmps5
    go_wp2
    go_ret
    exact ⟨rfl, Below.refl _ _⟩
  · have hl' : ¬ (1048576 : Int) < len := by omega
    go_enter Tryd.func5, Tryd.ntmps5
    go_wp2_with fail
    refine (drawDir_any a len cap zs _ HR.out (by omega)).mono ?_
    rintro e w1 ⟨p, rfl, hpl, hb⟩
    have HE1 := Lib.hid (HE.out.on hb)
    have HB1 := Lib.hid hb
    clear hb HR HE
    have hcl := Lib.Pa.clean_length_le_succ p
    have HL := Lib.hid (fun hv => law_dirMatch (l := p) hv)
    obtain ⟨C, hC⟩ : ∃ C, C = Lib.Pa.clean p := ⟨_, rfl⟩
    obtain ⟨D, hD⟩ : ∃ D, D = Lib.Pa.dir C := ⟨_, rfl⟩
    rw [← hC] at HL hcl
    rw [← hD] at HL
    have hdl : D.length ≤ C.length + 1 := by
      rw [hD]
      unfold Lib.Pa.dir
      have h1 := Lib.Pa.clean_length_le_succ (Lib.Pa.split C).1
      have h2 := congrArg List.length (split_cat C)
      rw [List.length_append] at h2
      omega
    have HC := Lib.hid hC.symm
    have HD := Lib.hid hD.symm
    clear hC hD
    go_wp2_with fail
    refine (implClean ⟨p.toArray⟩ w1 (by show p.length ≤ _; omega)).mono ?_
    rintro e w2 ⟨rfl, hb⟩
    have HE2 := Lib.hid (HE1.out.on hb)
    have HB2 := Lib.hid (HB1.out.trans (hb.mono HB1.out.size))
    clear hb HE1 HB1
    rw [show Lib.Pa.clean (⟨p.toArray⟩ : ByteArray).data.toList = C from HC.out]
    clear HC
    go_wp2_with fail
    refine (implDir ⟨C.toArray⟩ w2 (by show C.length ≤ _; omega)).mono ?_
    rintro e w3 ⟨rfl, hb⟩
    have HE3 := Lib.hid (HE2.out.on hb)
    have HB3 := Lib.hid (HB2.out.trans (hb.mono HB2.out.size))
    clear hb HE2 HB2
    rw [show Lib.Pa.dir (⟨C.toArray⟩ : ByteArray).data.toList = D from HD.out]
    clear HD
    go_wp2_with fail
    refine (validB ae _ p w3 HE3.out rfl (by omega)).mono ?_
    rintro e w4 ⟨rfl, hb⟩
    have HE4 := Lib.hid (HE3.out.on hb)
    have HB4 := Lib.hid (HB3.out.trans (hb.mono HB3.out.size))
    clear hb HE3 HB3
    generalize hV : Lib.validD p = V
    have HV := Lib.hid hV
    clear hV
    cases V with
    | false =>
      go_wp2
      go_ret
      exact ⟨rfl, HB4.out⟩
    | true =>
      have HL2 := Lib.hid (HL.out HV.out)
      clear HL HV
      go_wp2_with fail
      refine (slashB _ C w4 rfl).mono ?_
      rintro e w5 ⟨rfl, hb⟩
      have HE5 := Lib.hid (HE4.out.on hb)
      have HB5 := Lib.hid (HB4.out.trans (hb.mono HB4.out.size))
      clear hb HE4 HB4
      generalize hS : C.contains 47 = S
      have HS := Lib.hid hS
      clear hS
      cases S with
      | false =>
        obtain ⟨hm, rfl⟩ := HL2.out.1 HS.out
        have HM := Lib.hid hm
        clear hm HL2 HS
        go_wp2_with fail
        refine (yesB ae _ _ [42] C w5 HE5.out rfl rfl (by simp) (by omega)).mono ?_
        rintro e w6 ⟨rfl, hb⟩
        have HE6 := Lib.hid (HE5.out.on hb)
        have HB6 := Lib.hid (HB5.out.trans (hb.mono HB5.out.size))
        clear hb HE5 HB5
        rw [HM.out]
        go_wp2
        go_ret
        exact ⟨rfl, HB6.out⟩
      | true =>
        obtain ⟨h1, h2⟩ := HL2.out.2 HS.out
        have H1 := Lib.hid h1
        have H2 := Lib.hid h2
        clear h1 h2 HL2 HS
        by_cases hd7 : D = [47]
        · subst hd7
          have HM := Lib.hid (H1.out rfl)
          clear H1 H2
          go_wp2_with fail
          refine (yesB ae _ _ [47, 42] C w5 HE5.out rfl rfl (by simp) (by omega)).mono ?_
          rintro e w6 ⟨rfl, hb⟩
          have HE6 := Lib.hid (HE5.out.on hb)
          have HB6 := Lib.hid (HB5.out.trans (hb.mono HB5.out.size))
          clear hb HE5 HB5
          rw [HM.out]
          go_wp2
          go_ret
          exact ⟨rfl, HB6.out⟩
        · have HM := Lib.hid (H2.out hd7)
          have hd8 : (D == [47]) = false := by simpa using hd7
          have hql := quoteB_len D
          obtain ⟨Q, hQ⟩ : ∃ Q, Q = quoteB D := ⟨_, rfl⟩
          rw [← hQ] at HM hql
          have HQE := Lib.hid hQ.symm
          clear H1 H2 hQ
          go_wp2_with fail
          refine (quoteCB _ D w5 rfl (by omega)).mono ?_
          rintro e w6 ⟨rfl, hb⟩
          have HE6 := Lib.hid (HE5.out.on hb)
          have HB6 := Lib.hid (HB5.out.trans (hb.mono HB5.out.size))
          clear hb HE5 HB5
          rw [HQE.out]
          clear HQE
          go_wp2_with fail
          refine (yesB ae _ _ (Q ++ [47] ++ [42]) C w6 HE6.out (by simp) rfl (by simp; omega) (by omega)).mono ?_
          rintro e w7 ⟨rfl, hb⟩
          have HE7 := Lib.hid (HE6.out.on hb)
          have HB7 := Lib.hid (HB6.out.trans (hb.mono HB6.out.size))
          clear hb HE6 HB6
          rw [HM.out]
          go_wp2
          go_ret
          exact ⟨rfl, HB7.out⟩


set_option maxRecDepth 100000 in
theorem lifted (os : Os) (started : os.Started) (H : Type) (enc : TypeId × Value → H) :
    ReturnsInHanded {} Tryd.checked os 5 .any (fun w args => (Rows.fnDirMatchSpec.pre enc Tryd.prog Tryd.f5 Rows.fnDirMatchRow.domain false w args ∧ laidMetH Tryd.prog Rows.fnDirMatchRow.laid w) ∧ sizedMet enc Tryd.prog Tryd.f5 (OpenSpec.ofChange Rows.fnDirMatchSpec) false w args) (Rows.fnDirMatchSpec.post enc Tryd.prog Tryd.f5 false true false false) := by
  refine returnsInHanded_of_change_and (C := Tryd.checked) (X := fun w _ => laidMetH Tryd.prog Rows.fnDirMatchRow.laid w) (fun _ _ _ hh h => h.of_heap hh) own started (by kernel_rfl) Tryd.func5
    (ChangeSpec.witness_shaped (enc := enc) (C := Tryd.checked) (os := os) (X := fun w _ => laidMetH Tryd.prog Rows.fnDirMatchRow.laid w) false (World.laidAll Tryd.prog os Rows.fnDirMatchRow.laid) #[.slice none 0 0] 8 (World.laidAll_os _ _ _)
      (World.shaped_of_ZipB (by kernel_rfl) (by kernel_rfl)) (by kernel_rfl) (by kernel_rfl) (by kernel_rfl)
      (by rw [MakeChecks.laidMetH_plain _ _ _ (by kernel_rfl)]; exact laidMet_laidAll _ (by kernel_rfl) (by kernel_rfl))) ?_
  intro W base args ds gs before hval0 hW hcnd hsz0 hL _
  have hval : ∀ (j : Nat) t v, Tryd.f5.params[j]? = some t → args[j]? = some v → Value.okWide Tryd.prog W .any base t v := hval0
  have hW' := hW
  obtain ⟨p, q, hA0, hV, rfl, hfz, hnd⟩ := hW
  have hA : DataW.TrodAll enc Tryd.prog W 0 (fun _ => true) true Tryd.f5.params.toList args.toList ds p := hA0
  rw [Tryd.params5] at hA hval
  obtain ⟨v0, vs0, d0, ds0, p0, q0, hargs, rfl, rfl, h0, r0⟩ := trodAll_cons hA
  obtain ⟨rfl, rfl, rfl⟩ := trodAll_nil r0
  obtain rfl : args = #[v0] := by cases args; simp_all
  obtain ⟨rfl, rfl⟩ := trodVars_none hV
  obtain ⟨a0, len0, cap0, rfl⟩ := okWide_slice Tryd.underlying22 (hval 0 22 v0 rfl rfl)
  have k0 := h0
  have lt0 : ∀ x ∈ p0, x.block < W.heap.size := by obtain ⟨m, hm⟩ := k0; exact DataW.trod_lt m _ _ _ hm
  obtain ⟨z0, w0⟩ : ∃ zs, IsRow .u8 W a0 len0 cap0 zs := by
    obtain ⟨fuel, hf⟩ := h0
    rcases open_ints Tryd.underlying22 Tryd.underlying5 (by kernel_rfl) hf with ⟨hcs, _⟩ | ⟨x, l, c, zs, hcs, _, hl, hm, hz, _, hcell, hwz⟩
    · simp [Value.cells] at hcs
      obtain ⟨rfl, rfl, rfl⟩ := hcs
      exact ⟨[], .inl ⟨rfl, rfl, rfl, rfl⟩⟩
    · simp [Value.cells] at hcs
      obtain ⟨rfl, rfl, rfl⟩ := hcs
      exact ⟨zs, .inr ⟨_, rfl, hl, hm, by simpa using hz, hcell, hwz⟩⟩
  obtain ⟨ae, hE⟩ := env_of hL
  clear hA0 hval0
  refine (walk a0 len0 cap0 z0 W w0 ae hE).mono fun e W' ⟨he, bel⟩ => ?_
  subst he
  exact ⟨_, rfl, _, _, _, [], _, [], hW', trodAll_mk1 (shut_bool Tryd.underlying4 _), (trodAll_cons_mk (Below.trod laidOut (by kernel_rfl) (of_decide_eq_true (by kernel_rfl)) k0 bel lt0) trodAll_mk0), rfl, bel.frame _, fun h => by cases h⟩

theorem over : Rows.fnDirMatchRow.holds Tryd.pinned (OpenSpec.ofChange Rows.fnDirMatchSpec) :=
  OpenClaim.holds_of_wide 5 Tryd.f5 rfl rfl rfl rfl rfl rfl rfl ⟨rfl, rfl, rfl, rfl, rfl⟩ rfl rfl rfl rfl rfl (by kernel_rfl) Tryd.func5 (by kernel_rfl)
    (of_decide_eq_true (by kernel_rfl)) (by unfold Func.isWrapper; first | (rw [if_pos (by decide +kernel)]; kernel_rfl) | (rw [if_neg (by decide +kernel)]; exact ⟨rfl, rfl⟩))
    (fun os started H enc _ => lifted os started H enc)

theorem proved : Rows.FnDirMatchCardSaid :=
  Claim7.holds_tied_plain_at .later [] Rows.fnDirMatchCard.laidKinds true Rows.fnDirMatchCard.stood.harness true over (fun _ h => by cases h) (by kernel_rfl) (fun _ h => by cases h) fnDirMatch_row_tie rfl ⟨rfl, rfl⟩ (by kernel_rfl) rfl
    (fun f fn hf hfn => by
      obtain rfl : f = 5 := Option.some.inj ((show Tryd.prog.funcNamed Rows.fnDirMatchRow.func = some 5 by kernel_rfl).symm.trans hf) |>.symm
      obtain rfl : fn = Tryd.f5 := (Option.some.inj (Tryd.func5.symm.trans hfn)).symm
      exact ⟨by kernel_rfl, fun j t ht => by
        rw [Tryd.params5] at ht
        have hm : t ∈ [22] := by simpa using Array.mem_of_getElem? ht
        have hall : ([22].all fun u => !Tryd.prog.wantsStandIn u) = true := by kernel_rfl
        exact (show Tryd.prog.wantsStandIn t = false by simpa using List.all_eq_true.1 hall t hm)⟩)
    (by kernel_rfl)
end Go.Proofs.YtpmgemlfpihdbaaDoor.fnDirMatch


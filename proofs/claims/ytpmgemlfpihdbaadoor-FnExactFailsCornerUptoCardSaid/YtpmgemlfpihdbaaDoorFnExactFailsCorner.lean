/-
  For every pattern and name of bulk up to the bound, the pattern valid UTF-8, Fails equals the reference: the law returns true. Conditions: none beyond the bound.
  The frame round the walk is the kit's own.
-/
import Derived.Test.YtpmgemlfpihdbaaDoorRows
import Derived.Test.YtpmgemlfpihdbaaDoorWfT
import Derived.Test.YtpmgemlfpihdbaaDoorTie
import Derived.Test.YtpmgemlfpihdbaaDoorCards
import Derived.Test.YtpmgemlfpihdbaaDoorLaid
import Derived.LaidMore
import Derived.Lay
import Derived.SevenTiedAt
import Derived.Stop.Joined
import Derived.Deep.DeepHandedRow
import Derived.Deep.DeepWitnessRowRef
import Derived.OpenShut
namespace Go.Proofs.YtpmgemlfpihdbaaDoor.fnExactFailsCorner
open Go.ChangeShapes Go.WideShapes Go.ChangeAt Go.RowKit
open Go.ChangeMaps (open_string shut_string)
set_option linter.unusedVariables false

set_option maxHeartbeats 2000000 in
theorem walk (s t : ByteArray) (hs : s.size ≤ 1048576) (ht : t.size ≤ 1048576) (w : World) (ae : Addr) (hE : Env ae w) :
    Calls Tryd.prog 8 #[.string s, .string t] w fun e w' => e = .returned (.bool true) ∧ Below w.heap.size w w' := by
  have HE1 := Lib.hid hE
  have hsl : s.data.toList.length = s.size := rfl
  have htl : t.data.toList.length = t.size := rfl
  clear hE
  go_enter Tryd.func8, Tryd.ntmps8
  go_wp2_with fail
  refine (validB ae s s.data.toList w HE1.out rfl (by omega)).mono ?_
  rintro e w2 ⟨rfl, hb⟩
  have HE2 := Lib.hid (HE1.out.on hb)
  have HB2 := Lib.hid hb
  clear hb HE1
  generalize hA : Lib.validD s.data.toList = A
  cases A with
  | false =>
    clear hA
    go_wp2
    go_ret
    exact ⟨rfl, HB2.out⟩
  | true =>
    have HV := Lib.hid (bb_valid hA)
    clear hA
    go_wp2_with fail
    refine (failsB ae s t s.data.toList t.data.toList w2 HE2.out rfl rfl (by omega) (by omega)).mono ?_
    rintro e w3 ⟨rfl, hb⟩
    have HB3 := Lib.hid (HB2.out.trans (hb.mono HB2.out.size))
    rw [HV.out]
    clear hb HE2 HB2 HV
    go_wp2_with fail
    refine (specFailsB s t s.data.toList w3 rfl (by omega)).mono ?_
    rintro e w4 ⟨rfl, hb⟩
    have HB4 := Lib.hid (HB3.out.trans (hb.mono HB3.out.size))
    clear hb HB3
    generalize rdOk s.data.toList = R
    cases R
    all_goals
      go_wp2
      go_ret
      exact ⟨rfl, HB4.out⟩


theorem reads (os : Os) {H : Type} (enc : TypeId × Value → H) : ∃ places, DataW.whole enc Tryd.prog ((World.laidAll Tryd.prog os Rows.fnExactFailsCornerUptoRow.laid).forCall (fun _ _ => 0) ⟨#[], #[.string ByteArray.empty, .string ByteArray.empty], []⟩).memory Tryd.f8.params.toList Rows.fnExactFailsCornerSpec.vars false #[Value.string ByteArray.empty, Value.string ByteArray.empty].toList 8 = some ([.lit (.string []), .lit (.string [])], [], places) :=
  ⟨[], by kernel_rfl⟩

set_option maxRecDepth 100000 in
theorem lifted (os : Os) (started : os.Started) (H : Type) (enc : TypeId × Value → H) (G : Stop.Interp) :
    ReturnsInHanded {} Tryd.checked os 8 .any ((Rows.OpenSpec.upto Rows.fnExactFailsCornerSpec).preRow enc Tryd.prog Tryd.f8 Rows.fnExactFailsCornerUptoRow.domain false Rows.fnExactFailsCornerUptoRow.laid) (((Rows.OpenSpec.upto Rows.fnExactFailsCornerSpec).at G).post enc Tryd.prog Tryd.f8 false true false false) := by
  obtain ⟨places, hx⟩ := reads os enc
  refine returnsInHanded_of_row (C := Tryd.checked) (s := Rows.OpenSpec.upto Rows.fnExactFailsCornerSpec) own started (by kernel_rfl) Tryd.func8
    (witness_row_atRef (enc := enc) (C := Tryd.checked) false (World.laidAll Tryd.prog os Rows.fnExactFailsCornerUptoRow.laid) #[.string ByteArray.empty, .string ByteArray.empty] (World.laidAll_os _ _ _) (by kernel_rfl) (by kernel_rfl) (by kernel_rfl)
      (OpenSpec.preRow_of_cond 8 hx (by kernel_rfl) (fun k hk => by cases hk; kernel_rfl) (by kernel_rfl) (laidMet_laidAll _ (by kernel_rfl) (by kernel_rfl)))) ?_
  intro W base args ds gs before hval0 hW hcnd hcond hsz0 hL _ _
  have hval : ∀ (j : Nat) t v, Tryd.f8.params[j]? = some t → args[j]? = some v → Value.okWide Tryd.prog W .any base t v := hval0
  have hk := hcond _ rfl
  have hW' := hW
  obtain ⟨p, q, hA0, hV, rfl, hfz, hnd⟩ := hW
  have hA : DataW.TrodAll enc Tryd.prog W 0 (fun _ => true) true Tryd.f8.params.toList args.toList ds p := hA0
  rw [Tryd.params8] at hA hval
  obtain ⟨v0, vs0, d0, ds0, p0, q0, hargs, rfl, rfl, h0, r0⟩ := trodAll_cons hA
  obtain ⟨v1, vs1, d1, ds1, p1, q1, rfl, rfl, rfl, h1, r1⟩ := trodAll_cons r0
  obtain ⟨rfl, rfl, rfl⟩ := trodAll_nil r1
  obtain rfl : args = #[v0, v1] := by cases args; simp_all
  obtain ⟨rfl, rfl⟩ := trodVars_none hV
  have k0 := h0
  have k1 := h1
  have lt0 : ∀ x ∈ p0, x.block < W.heap.size := by obtain ⟨m, hm⟩ := k0; exact DataW.trod_lt m _ _ _ hm
  have lt1 : ∀ x ∈ p1, x.block < W.heap.size := by obtain ⟨m, hm⟩ := k1; exact DataW.trod_lt m _ _ _ hm
  obtain ⟨a0, rfl, rfl, hp0, w0⟩ := open_string Tryd.underlying9 (hval 0 9 v0 rfl rfl) h0
  obtain ⟨a1, rfl, rfl, hp1, w1⟩ := open_string Tryd.underlying9 (hval 1 9 v1 rfl rfl) h1
  have hb : Rows.uptoBulkAll [DataW.lit (H := H) (.string a0.data.toList), DataW.lit (H := H) (.string a1.data.toList)] ≤ 1048576 := of_decide_eq_true hk
  have hb2 : a0.data.toList.length + 1 + (a1.data.toList.length + 1) ≤ 1048576 := by
    simp only [Rows.uptoBulkAll, Rows.uptoBulk] at hb
    omega
  have z0 : a0.size ≤ 1048576 := by rw [Lib.size_eq]; omega
  have z1 : a1.size ≤ 1048576 := by rw [Lib.size_eq]; omega
  obtain ⟨ae, hE⟩ := env_of hL
  clear hA0 hval0 hk hb hb2
  refine (walk a0 a1 z0 z1 W ae hE).mono fun e W' ⟨he, bel⟩ => ?_
  subst he
  exact ⟨_, rfl, _, _, _, [], _, [], hW', trodAll_mk1 (shut_bool Tryd.underlying4 _), (trodAll_cons_mk (Below.trod laidOut (by kernel_rfl) (of_decide_eq_true (by kernel_rfl)) k0 bel lt0) (trodAll_cons_mk (Below.trod laidOut (by kernel_rfl) (of_decide_eq_true (by kernel_rfl)) k1 bel lt1) trodAll_mk0)), rfl, bel.frame _, fun h => by cases h⟩

theorem over : Rows.FnExactFailsCornerUptoSaid :=
  OpenClaim.holds_of_cond 8 Tryd.f8 rfl rfl rfl rfl rfl rfl rfl ⟨rfl, rfl, rfl, rfl, rfl⟩ rfl rfl rfl rfl rfl (by kernel_rfl) Tryd.func8 (by kernel_rfl)
    (of_decide_eq_true (by kernel_rfl)) (by unfold Func.isWrapper; first | (rw [if_pos (by decide +kernel)]; kernel_rfl) | (rw [if_neg (by decide +kernel)]; exact ⟨rfl, rfl⟩))
    (fun os started H enc _ G => by rw [OpenClaim.pre_eq_preRow]; exact lifted os started H enc G)

theorem proved : Rows.FnExactFailsCornerUptoCardSaid :=
  Claim7.holds_tied_plain_at .later [] Rows.fnExactFailsCornerUptoCard.laidKinds true Rows.fnExactFailsCornerUptoCard.stood.harness true over (fun _ h => by cases h) (by kernel_rfl) (fun _ h => by cases h) fnExactFailsCornerUpto_row_tie rfl ⟨rfl, rfl⟩ (by kernel_rfl) rfl
    (fun f fn hf hfn => by
      obtain rfl : f = 8 := Option.some.inj ((show Tryd.prog.funcNamed Rows.fnExactFailsCornerUptoRow.func = some 8 by kernel_rfl).symm.trans hf) |>.symm
      obtain rfl : fn = Tryd.f8 := (Option.some.inj (Tryd.func8.symm.trans hfn)).symm
      exact ⟨by kernel_rfl, fun j t ht => by
        rw [Tryd.params8] at ht
        have hm : t ∈ [9, 9] := by simpa using Array.mem_of_getElem? ht
        have hall : ([9, 9].all fun u => !Tryd.prog.wantsStandIn u) = true := by kernel_rfl
        exact (show Tryd.prog.wantsStandIn t = false by simpa using List.all_eq_true.1 hall t hm)⟩)
    (by kernel_rfl)
end Go.Proofs.YtpmgemlfpihdbaaDoor.fnExactFailsCorner


/-
  Match equals the reference for every decided pair of a pattern and a name whose bulk is at most 1048576: the law returns true and leaves both as they were. Conditions: the second form's bound.
  The frame round the walk is the kit's own.
-/
import Derived.Test.YtlekeaganaliiaaDoorRows
import Derived.Test.YtlekeaganaliiaaDoorFitD
import Derived.Test.YtlekeaganaliiaaDoorLate
import Derived.Test.YtlekeaganaliiaaDoorTie
import Derived.Test.YtlekeaganaliiaaDoorCards
import Derived.Test.YtlekeaganaliiaaDoorLaid
import Derived.LaidMore
import Derived.Lay
import Derived.SevenTiedAt
import Derived.Stop.Joined
import Derived.Deep.DeepHandedRow
import Derived.Deep.DeepWitnessRowRef
import Derived.OpenShut
namespace Go.Proofs.YtlekeaganaliiaaDoor.fnExactMatch
open Go.ChangeShapes Go.WideShapes Go.ChangeAt Go.RowKit
open Go.ChangeMaps (open_string shut_string)
set_option linter.unusedVariables false

set_option maxHeartbeats 2000000 in
theorem walk (s t : ByteArray) (hs : s.size ≤ 1048576) (ht : t.size ≤ 1048576) (w : World) (ae : Addr) (hE : Env ae w) :
    Calls Tryd.prog 3 #[.string s, .string t] w fun e w' => e = .returned (.bool true) ∧ Below w.heap.size w w' := by
  obtain ⟨⟨p⟩⟩ := s
  obtain ⟨⟨n⟩⟩ := t
  have hp : p.length ≤ 1048576 := hs
  have hn : n.length ≤ 1048576 := ht
  have HE := Lib.hid hE
  clear hs ht hE
  go_enter Tryd.func3, Tryd.ntmps3
  go_wp2_with fail
  refine (decidedCB ae _ _ p n w HE.out rfl rfl (by omega) (by omega)).mono ?_
  rintro e w1 ⟨rfl, hb⟩
  have HE1 := Lib.hid (HE.out.on hb)
  have HB1 := Lib.hid hb
  clear hb HE
  generalize hD : decdB p n = D
  have HD := Lib.hid hD
  clear hD
  cases D with
  | false =>
    go_wp2
    go_ret
    exact ⟨rfl, HB1.out⟩
  | true =>
    obtain ⟨ts, hrd, hpa, hgood, _, _⟩ := wf_terms (decd_wf HD.out)
    have hT : Tms p ts := ⟨decd_wf HD.out, hrd⟩
    obtain ⟨hv, hdc⟩ := decd_dcd hT HD.out
    have hm := dcd_mm hT hv hdc
    have hbb := bb_of hpa
    have HC := Lib.hid (fun W => specMatch_call ⟨p.toArray⟩ ⟨n.toArray⟩ p n ts W rfl rfl (by omega) (by omega) hrd (fun t ht => good_ok (hgood t ht)) hv)
    have HM := Lib.hid hm
    have HBB := Lib.hid hbb
    obtain ⟨M, hM⟩ : ∃ M, M = mtr ts (runes n) := ⟨_, rfl⟩
    rw [← hM] at HC HM
    clear hrd hpa hgood HD hv hdc hm hbb hT hM
    go_wp2_with fail
    refine (matchB ae _ _ p n w1 HE1.out rfl rfl (by omega) (by omega)).mono ?_
    rintro e w2 ⟨rfl, hb⟩
    have HB2 := Lib.hid (HB1.out.trans (hb.mono HB1.out.size))
    rw [HM.out, HBB.out]
    clear hb HE1 HB1 HM HBB
    go_wp2_with fail
    refine (HC.out _).mono ?_
    rintro e w3 ⟨rfl, hb⟩
    have HB3 := Lib.hid (HB2.out.trans (hb.mono HB2.out.size))
    clear hb HB2 HC
    cases M
    all_goals
      go_wp2
      go_ret
      exact ⟨rfl, HB3.out⟩


theorem reads (os : Os) {H : Type} (enc : TypeId × Value → H) : ∃ places, DataW.whole enc Tryd.prog ((World.laidAll Tryd.prog os Rows.fnExactMatchUptoRow.laid).forCall (fun _ _ => 0) ⟨#[], #[.string ByteArray.empty, .string ByteArray.empty], []⟩).memory Tryd.f3.params.toList Rows.fnExactMatchSpec.vars false #[Value.string ByteArray.empty, Value.string ByteArray.empty].toList 8 = some ([.lit (.string []), .lit (.string [])], [], places) :=
  ⟨[], by kernel_rfl⟩

set_option maxRecDepth 100000 in
theorem lifted (os : Os) (started : os.Started) (H : Type) (enc : TypeId × Value → H) (G : Stop.Interp) :
    ReturnsInHanded {} Tryd.checked os 3 .any ((Rows.OpenSpec.upto Rows.fnExactMatchSpec).preRow enc Tryd.prog Tryd.f3 Rows.fnExactMatchUptoRow.domain false Rows.fnExactMatchUptoRow.laid) (((Rows.OpenSpec.upto Rows.fnExactMatchSpec).at G).post enc Tryd.prog Tryd.f3 false true false false) := by
  obtain ⟨places, hx⟩ := reads os enc
  refine returnsInHanded_of_row (C := Tryd.checked) (s := Rows.OpenSpec.upto Rows.fnExactMatchSpec) own started (by kernel_rfl) Tryd.func3
    (witness_row_atRef (enc := enc) (C := Tryd.checked) false (World.laidAll Tryd.prog os Rows.fnExactMatchUptoRow.laid) #[.string ByteArray.empty, .string ByteArray.empty] (World.laidAll_os _ _ _) (by kernel_rfl) (by kernel_rfl) (by kernel_rfl)
      (OpenSpec.preRow_of_cond 8 hx (by kernel_rfl) (fun k hk => by cases hk; kernel_rfl) (by kernel_rfl) (laidMet_laidAll _ (by kernel_rfl) (by kernel_rfl)))) ?_
  intro W base args ds gs before hval0 hW hcnd hcond hsz0 hL _ _
  have hval : ∀ (j : Nat) t v, Tryd.f3.params[j]? = some t → args[j]? = some v → Value.okWide Tryd.prog W .any base t v := hval0
  have hk := hcond _ rfl
  have hW' := hW
  obtain ⟨p, q, hA0, hV, rfl, hfz, hnd⟩ := hW
  have hA : DataW.TrodAll enc Tryd.prog W 0 (fun _ => true) true Tryd.f3.params.toList args.toList ds p := hA0
  rw [Tryd.params3] at hA hval
  obtain ⟨v0, vs0, d0, ds0, p0, q0, hargs, rfl, rfl, h0, r0⟩ := trodAll_cons hA
  obtain ⟨v1, vs1, d1, ds1, p1, q1, rfl, rfl, rfl, h1, r1⟩ := trodAll_cons r0
  obtain ⟨rfl, rfl, rfl⟩ := trodAll_nil r1
  obtain rfl : args = #[v0, v1] := by cases args; simp_all
  obtain ⟨rfl, rfl⟩ := trodVars_none hV
  have k0 := h0
  have k1 := h1
  have lt0 : ∀ x ∈ p0, x.block < W.heap.size := by obtain ⟨m, hm⟩ := k0; exact DataW.trod_lt m _ _ _ hm
  have lt1 : ∀ x ∈ p1, x.block < W.heap.size := by obtain ⟨m, hm⟩ := k1; exact DataW.trod_lt m _ _ _ hm
  obtain ⟨a0, rfl, rfl, hp0, w0⟩ := open_string Tryd.underlying9 (hval 0 9 v0 rfl rfl) h0
  obtain ⟨a1, rfl, rfl, hp1, w1⟩ := open_string Tryd.underlying9 (hval 1 9 v1 rfl rfl) h1
  have hb : Rows.uptoBulkAll [DataW.lit (H := H) (.string a0.data.toList), DataW.lit (H := H) (.string a1.data.toList)] ≤ 1048576 := of_decide_eq_true hk
  have hb2 : a0.data.toList.length + 1 + (a1.data.toList.length + 1) ≤ 1048576 := by
    simp only [Rows.uptoBulkAll, Rows.uptoBulk] at hb
    omega
  have z0 : a0.size ≤ 1048576 := by rw [Lib.size_eq]; omega
  have z1 : a1.size ≤ 1048576 := by rw [Lib.size_eq]; omega
  obtain ⟨ae, hE⟩ := env_of hL
  clear hA0 hval0 hk hb hb2
  refine (walk a0 a1 z0 z1 W ae hE).mono fun e W' ⟨he, bel⟩ => ?_
  subst he
  exact ⟨_, rfl, _, _, _, [], _, [], hW', trodAll_mk1 (shut_bool Tryd.underlying4 _), (trodAll_cons_mk (Below.trod laidOut (by kernel_rfl) (of_decide_eq_true (by kernel_rfl)) k0 bel lt0) (trodAll_cons_mk (Below.trod laidOut (by kernel_rfl) (of_decide_eq_true (by kernel_rfl)) k1 bel lt1) trodAll_mk0)), rfl, bel.frame _, fun h => by cases h⟩

theorem over : Rows.FnExactMatchUptoSaid :=
  OpenClaim.holds_of_cond 3 Tryd.f3 rfl rfl rfl rfl rfl rfl rfl ⟨rfl, rfl, rfl, rfl, rfl⟩ rfl rfl rfl rfl rfl (by kernel_rfl) Tryd.func3 (by kernel_rfl)
    (of_decide_eq_true (by kernel_rfl)) (by unfold Func.isWrapper; first | (rw [if_pos (by decide +kernel)]; kernel_rfl) | (rw [if_neg (by decide +kernel)]; exact ⟨rfl, rfl⟩))
    (fun os started H enc _ G => by rw [OpenClaim.pre_eq_preRow]; exact lifted os started H enc G)

theorem proved : Rows.FnExactMatchUptoCardSaid :=
  Claim7.holds_tied_plain_at .later [] Rows.fnExactMatchUptoCard.laidKinds true Rows.fnExactMatchUptoCard.stood.harness true over (fun _ h => by cases h) (by kernel_rfl) (fun _ h => by cases h) fnExactMatchUpto_row_tie rfl ⟨rfl, rfl⟩ (by kernel_rfl) rfl
    (fun f fn hf hfn => by
      obtain rfl : f = 3 := Option.some.inj ((show Tryd.prog.funcNamed Rows.fnExactMatchUptoRow.func = some 3 by kernel_rfl).symm.trans hf) |>.symm
      obtain rfl : fn = Tryd.f3 := (Option.some.inj (Tryd.func3.symm.trans hfn)).symm
      exact ⟨by kernel_rfl, fun j t ht => by
        rw [Tryd.params3] at ht
        have hm : t ∈ [9, 9] := by simpa using Array.mem_of_getElem? ht
        have hall : ([9, 9].all fun u => !Tryd.prog.wantsStandIn u) = true := by kernel_rfl
        exact (show Tryd.prog.wantsStandIn t = false by simpa using List.all_eq_true.1 hall t hm)⟩)
    (by kernel_rfl)
end Go.Proofs.YtlekeaganaliiaaDoor.fnExactMatch


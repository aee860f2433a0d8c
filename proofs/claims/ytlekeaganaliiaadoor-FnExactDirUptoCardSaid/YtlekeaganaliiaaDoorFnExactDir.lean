/-
  Dir equals the reference for every path whose bulk is at most 1048576: the law returns true and leaves the path as it was. Conditions: the second form's bound.
  The frame round the walk is the kit's own.
-/
import Derived.Test.YtlekeaganaliiaaDoorRows
import Derived.Test.YtlekeaganaliiaaDoorSpecP
import Derived.Test.YtlekeaganaliiaaDoorTie
import Derived.Test.YtlekeaganaliiaaDoorCards
import Derived.Test.YtlekeaganaliiaaDoorLaid
import Derived.LaidMore
import Derived.Lay
import Derived.SevenTiedAt
import Derived.Stop.Joined
import Derived.Deep.DeepHandedRow
import Derived.Deep.DeepWitnessRowRef
import Derived.OpenShut
namespace Go.Proofs.YtlekeaganaliiaaDoor.fnExactDir
open Go.ChangeShapes Go.WideShapes Go.ChangeAt Go.RowKit
open Go.ChangeMaps (open_string shut_string)
set_option linter.unusedVariables false

theorem walk (s : ByteArray) (hs : s.size ≤ 1048576) (w : World) (hM : MaxAt w) :
    Calls Tryd.prog 10 #[.string s] w fun e w' => e = .returned (.bool true) ∧ Below w.heap.size w w' := by
  obtain ⟨⟨l⟩⟩ := s
  have hl : l.length ≤ 1048576 := hs
  have HM := Lib.hid hM
  clear hM hs
  go_enter Tryd.func10, Tryd.ntmps10
  go_wp2_with fail
  refine (dirL l _ (by omega)).mono ?_
  rintro e w1 ⟨rfl, hb⟩
  have HB1 := Lib.hid hb
  have HM1 := Lib.hid (HM.out.on hb)
  clear hb HM
  go_wp2_with fail
  refine (specDir l _ HM1.out (by omega)).mono ?_
  rintro e w2 ⟨rfl, hb⟩
  have HB2 := Lib.hid (HB1.out.trans (hb.mono HB1.out.size))
  clear hb HB1 HM1
  generalize Lib.Pa.dir l = x
  go_wp2
  go_ret
  exact ⟨rfl, HB2.out⟩


theorem reads (os : Os) {H : Type} (enc : TypeId × Value → H) : ∃ places, DataW.whole enc Tryd.prog ((World.laidAll Tryd.prog os Rows.fnExactDirUptoRow.laid).forCall (fun _ _ => 0) ⟨#[], #[.string ByteArray.empty], []⟩).memory Tryd.f10.params.toList Rows.fnExactDirSpec.vars false #[Value.string ByteArray.empty].toList 8 = some ([.lit (.string [])], [], places) :=
  ⟨[], by kernel_rfl⟩

set_option maxRecDepth 100000 in
theorem lifted (os : Os) (started : os.Started) (H : Type) (enc : TypeId × Value → H) (G : Stop.Interp) :
    ReturnsInHanded {} Tryd.checked os 10 .any ((Rows.OpenSpec.upto Rows.fnExactDirSpec).preRow enc Tryd.prog Tryd.f10 Rows.fnExactDirUptoRow.domain false Rows.fnExactDirUptoRow.laid) (((Rows.OpenSpec.upto Rows.fnExactDirSpec).at G).post enc Tryd.prog Tryd.f10 false true false false) := by
  obtain ⟨places, hx⟩ := reads os enc
  refine returnsInHanded_of_row (C := Tryd.checked) (s := Rows.OpenSpec.upto Rows.fnExactDirSpec) own started (by kernel_rfl) Tryd.func10
    (witness_row_atRef (enc := enc) (C := Tryd.checked) false (World.laidAll Tryd.prog os Rows.fnExactDirUptoRow.laid) #[.string ByteArray.empty] (World.laidAll_os _ _ _) (by kernel_rfl) (by kernel_rfl) (by kernel_rfl)
      (OpenSpec.preRow_of_cond 8 hx (by kernel_rfl) (fun k hk => by cases hk; kernel_rfl) (by kernel_rfl) (laidMet_laidAll _ (by kernel_rfl) (by kernel_rfl)))) ?_
  intro W base args ds gs before hval0 hW hcnd hcond hsz0 hL hsh _
  have hval : ∀ (j : Nat) t v, Tryd.f10.params[j]? = some t → args[j]? = some v → Value.okWide Tryd.prog W .any base t v := hval0
  have hk := hcond _ rfl
  have hW' := hW
  obtain ⟨p, q, hA0, hV, rfl, hfz, hnd⟩ := hW
  have hA : DataW.TrodAll enc Tryd.prog W 0 (fun _ => true) true Tryd.f10.params.toList args.toList ds p := hA0
  rw [Tryd.params10] at hA hval
  obtain ⟨v0, vs0, d0, ds0, p0, q0, hargs, rfl, rfl, h0, r0⟩ := trodAll_cons hA
  obtain ⟨rfl, rfl, rfl⟩ := trodAll_nil r0
  obtain rfl : args = #[v0] := by cases args; simp_all
  obtain ⟨rfl, rfl⟩ := trodVars_none hV
  have k0 := h0
  have lt0 : ∀ x ∈ p0, x.block < W.heap.size := by obtain ⟨m, hm⟩ := k0; exact DataW.trod_lt m _ _ _ hm
  obtain ⟨a0, rfl, rfl, hp0, w0⟩ := open_string Tryd.underlying9 (hval 0 9 v0 rfl rfl) h0
  have hb : Rows.uptoBulkAll [DataW.lit (H := H) (.string a0.data.toList)] ≤ 1048576 := of_decide_eq_true hk
  have hb2 : a0.data.toList.length + 1 ≤ 1048576 := by
    simp only [Rows.uptoBulkAll, Rows.uptoBulk] at hb
    omega
  have z0 : a0.size ≤ 1048576 := by rw [Lib.size_eq]; omega
  have hM := max_of hsh
  clear hA0 hval0 hk hb hb2
  refine (walk a0 z0 W hM).mono fun e W' ⟨he, bel⟩ => ?_
  subst he
  exact ⟨_, rfl, _, _, _, [], _, [], hW', trodAll_mk1 (shut_bool Tryd.underlying4 _), (trodAll_cons_mk (Below.trod laidOut (by kernel_rfl) (of_decide_eq_true (by kernel_rfl)) k0 bel lt0) trodAll_mk0), rfl, bel.frame _, fun h => by cases h⟩

theorem over : Rows.FnExactDirUptoSaid :=
  OpenClaim.holds_of_cond 10 Tryd.f10 rfl rfl rfl rfl rfl rfl rfl ⟨rfl, rfl, rfl, rfl, rfl⟩ rfl rfl rfl rfl rfl (by kernel_rfl) Tryd.func10 (by kernel_rfl)
    (of_decide_eq_true (by kernel_rfl)) (by unfold Func.isWrapper; first | (rw [if_pos (by decide +kernel)]; kernel_rfl) | (rw [if_neg (by decide +kernel)]; exact ⟨rfl, rfl⟩))
    (fun os started H enc _ G => by rw [OpenClaim.pre_eq_preRow]; exact lifted os started H enc G)

theorem proved : Rows.FnExactDirUptoCardSaid :=
  Claim7.holds_tied_plain_at .later [] Rows.fnExactDirUptoCard.laidKinds true Rows.fnExactDirUptoCard.stood.harness true over (fun _ h => by cases h) (by kernel_rfl) (fun _ h => by cases h) fnExactDirUpto_row_tie rfl ⟨rfl, rfl⟩ (by kernel_rfl) rfl
    (fun f fn hf hfn => by
      obtain rfl : f = 10 := Option.some.inj ((show Tryd.prog.funcNamed Rows.fnExactDirUptoRow.func = some 10 by kernel_rfl).symm.trans hf) |>.symm
      obtain rfl : fn = Tryd.f10 := (Option.some.inj (Tryd.func10.symm.trans hfn)).symm
      exact ⟨by kernel_rfl, fun j t ht => by
        rw [Tryd.params10] at ht
        have hm : t ∈ [9] := by simpa using Array.mem_of_getElem? ht
        have hall : ([9].all fun u => !Tryd.prog.wantsStandIn u) = true := by kernel_rfl
        exact (show Tryd.prog.wantsStandIn t = false by simpa using List.all_eq_true.1 hall t hm)⟩)
    (by kernel_rfl)
end Go.Proofs.YtlekeaganaliiaaDoor.fnExactDir


/-
  The law FnPlainBytes returns true for every input and leaves its argument as it was. Conditions: none.
  The frame round the walk is the kit's own (proof-skeleton.mjs).
-/
import Derived.Test.YtfmokdgapfbkbaaDoorRows
import Derived.Test.YtfmokdgapfbkbaaDoorImpl
import Derived.Test.YtfmokdgapfbkbaaDoorDrawF
import Derived.Test.YtfmokdgapfbkbaaDoorPlainS
import Derived.Test.YtfmokdgapfbkbaaDoorTie
import Derived.Test.YtfmokdgapfbkbaaDoorCards
import Derived.Test.YtfmokdgapfbkbaaDoorLaid
import Derived.LaidMore
import Derived.Lay
import Derived.SevenTiedAt
import Derived.Stop.Joined
namespace Go.Proofs.YtfmokdgapfbkbaaDoor.fnPlainBytes
open Go.ChangeShapes Go.WideShapes Go.ChangeAt Go.RowKit
open Go.ChangeMaps (open_string shut_string)
set_option linter.unusedVariables false

theorem law (a b : List UInt8) (h : (runes a).all (fun c => !spB c) = true) : mm a b = decide (b = a) ∧ bb a = false := by
  rw [runes_all (fun c => !spB c) (fun c hc => by simp [spB]; omega) _ a (Nat.le_refl _)] at h
  have h1 : parse false a = some (lits a) := parse_plain a (fun x hx => by
    have := List.all_eq_true.1 h x hx
    have e : spB x.toNat = false := by simpa using this
    have hn : ¬ (x.toNat = 42 ∨ x.toNat = 63 ∨ x.toNat = 91 ∨ x.toNat = 92) := of_decide_eq_false e
    exact ⟨fun e => hn (by subst e; decide), fun e => hn (by subst e; decide), fun e => hn (by subst e; decide), fun e => hn (by subst e; decide)⟩)
  refine ⟨?_, ?_⟩
  · rw [mm_eq, h1]
    exact gm_lits a b
  · unfold bb
    rw [h1]
    rfl

theorem walk (a : Option Addr) (len cap : Nat) (zs : List Int) (w : World) (hr : IsRow .u8 w a len cap zs) (ae : Addr) (hE : Env ae w) :
    Calls Tryd.prog 6 #[.slice a len cap] w fun e w' => e = .returned (.bool true) ∧ Below w.heap.size w w' := by
  have HR := Lib.hid hr
  have HE := Lib.hid hE
  clear hr hE
  by_cases hlen : 1048576 < len
  · have hl' : (1048576 : Int) < len := by omega
    go_enter Tryd.func6, Tryd.ntmps6
    go_wp2
    go_ret
    exact ⟨rfl, Below.refl _ _⟩
  · have hl' : ¬ (1048576 : Int) < len := by omega
    go_enter Tryd.func6, Tryd.ntmps6
    go_wp2_with fail
    refine (drawTexts_any a len cap zs _ HR.out (by omega)).mono ?_
    rintro e w1 ⟨p, n, rfl, hpl, hnl, hb1⟩
    have HE1 := Lib.hid (HE.out.on hb1)
    have HB1 := Lib.hid hb1
    clear hb1 HR HE
    have HL := Lib.hid (law p n)
    have hcall := Lib.hid (isPlain_call p w1)
    generalize (runes p).all (fun c => !spB c) = Z at *
    go_wp2_with fail
    refine hcall.out.mono ?_
    rintro e w2 ⟨rfl, hb2⟩
    have HE2 := Lib.hid (HE1.out.on hb2)
    have HB2 := Lib.hid (HB1.out.trans (hb2.mono HB1.out.size))
    clear hb2 hcall HE1 HB1
    cases Z with
    | false =>
      go_wp2
      go_ret
      exact ⟨rfl, HB2.out⟩
    | true =>
      have hcall := Lib.hid (implMatch ae p n w2 HE2.out (by omega) (by omega))
      have HQ := Lib.hid (HL.out rfl)
      clear HL
      generalize mm p n = M at *
      generalize bb p = B at *
      go_wp2_with fail
      refine hcall.out.mono ?_
      rintro e w3 ⟨rfl, hb3⟩
      have HB3 := Lib.hid (HB2.out.trans (hb3.mono HB2.out.size))
      clear hb3 hcall HE2 HB2
      obtain ⟨hM, rfl⟩ := HQ.out
      clear HQ
      by_cases hpn : p = n
      · subst hpn
        obtain rfl : M = true := by simpa using hM
        clear hM
        go_wp2
        go_ret
        exact ⟨rfl, HB3.out⟩
      · obtain rfl : M = false := by simpa using hM.trans (decide_eq_false (fun e => hpn e.symm))
        have hpb : (p == n) = false := by simpa using hpn
        clear hM hpn
        go_wp2
        go_ret
        exact ⟨rfl, HB3.out⟩


set_option maxRecDepth 100000 in
theorem lifted (os : Os) (started : os.Started) (H : Type) (enc : TypeId × Value → H) :
    ReturnsInHanded {} Tryd.checked os 6 .any (fun w args => (Rows.fnPlainBytesSpec.pre enc Tryd.prog Tryd.f6 Rows.fnPlainBytesRow.domain false w args ∧ laidMetH Tryd.prog Rows.fnPlainBytesRow.laid w) ∧ sizedMet enc Tryd.prog Tryd.f6 (OpenSpec.ofChange Rows.fnPlainBytesSpec) false w args) (Rows.fnPlainBytesSpec.post enc Tryd.prog Tryd.f6 false true false false) := by
  refine returnsInHanded_of_change_and (C := Tryd.checked) (X := fun w _ => laidMetH Tryd.prog Rows.fnPlainBytesRow.laid w) (fun _ _ _ hh h => h.of_heap hh) own started (by kernel_rfl) Tryd.func6
    (ChangeSpec.witness_shaped (enc := enc) (C := Tryd.checked) (os := os) (X := fun w _ => laidMetH Tryd.prog Rows.fnPlainBytesRow.laid w) false (World.laidAll Tryd.prog os Rows.fnPlainBytesRow.laid) #[.slice none 0 0] 8 (World.laidAll_os _ _ _)
      (World.shaped_of_ZipB (by kernel_rfl) (by kernel_rfl)) (by kernel_rfl) (by kernel_rfl) (by kernel_rfl)
      (by rw [MakeChecks.laidMetH_plain _ _ _ (by kernel_rfl)]; exact laidMet_laidAll _ (by kernel_rfl) (by kernel_rfl))) ?_
  intro W base args ds gs before hval0 hW hcnd hsz0 hL _
  have hval : ∀ (j : Nat) t v, Tryd.f6.params[j]? = some t → args[j]? = some v → Value.okWide Tryd.prog W .any base t v := hval0
  have hW' := hW
  obtain ⟨p, q, hA0, hV, rfl, hfz, hnd⟩ := hW
  have hA : DataW.TrodAll enc Tryd.prog W 0 (fun _ => true) true Tryd.f6.params.toList args.toList ds p := hA0
  rw [Tryd.params6] at hA hval
  obtain ⟨v0, vs0, d0, ds0, p0, q0, hargs, rfl, rfl, h0, r0⟩ := trodAll_cons hA
  obtain ⟨rfl, rfl, rfl⟩ := trodAll_nil r0
  obtain rfl : args = #[v0] := by cases args; simp_all
  obtain ⟨rfl, rfl⟩ := trodVars_none hV
  obtain ⟨a0, len0, cap0, rfl⟩ := okWide_slice Tryd.underlying22 (hval 0 22 v0 rfl rfl)
  have k0 := h0
  have lt0 : ∀ x ∈ p0, x.block < W.heap.size := by obtain ⟨m, hm⟩ := k0; exact DataW.trod_lt m _ _ _ hm
  obtain ⟨z0, w0⟩ : ∃ zs, IsRow .u8 W a0 len0 cap0 zs := by
    obtain ⟨fuel, hf⟩ := h0
    rcases open_ints Tryd.underlying22 Tryd.underlying5 (by kernel_rfl) hf with ⟨hcs, _⟩ | ⟨x, l, c, zs, hcs, _, hl, hm, hz, _, hcell, hwz⟩
    · simp [Value.cells] at hcs
      obtain ⟨rfl, rfl, rfl⟩ := hcs
      exact ⟨[], .inl ⟨rfl, rfl, rfl, rfl⟩⟩
    · simp [Value.cells] at hcs
      obtain ⟨rfl, rfl, rfl⟩ := hcs
      exact ⟨zs, .inr ⟨_, rfl, hl, hm, by simpa using hz, hcell, hwz⟩⟩
  obtain ⟨ae, hE⟩ := env_of hL
  clear hA0 hval0
  refine (walk a0 len0 cap0 z0 W w0 ae hE).mono fun e W' ⟨he, bel⟩ => ?_
  subst he
  exact ⟨_, rfl, _, _, _, [], _, [], hW', trodAll_mk1 (shut_bool Tryd.underlying4 _), (trodAll_cons_mk (Below.trod laidOut (by kernel_rfl) (of_decide_eq_true (by kernel_rfl)) k0 bel lt0) trodAll_mk0), rfl, bel.frame _, fun h => by cases h⟩

theorem over : Rows.fnPlainBytesRow.holds Tryd.pinned (OpenSpec.ofChange Rows.fnPlainBytesSpec) :=
  OpenClaim.holds_of_wide 6 Tryd.f6 rfl rfl rfl rfl rfl rfl rfl ⟨rfl, rfl, rfl, rfl, rfl⟩ rfl rfl rfl rfl rfl (by kernel_rfl) Tryd.func6 (by kernel_rfl)
    (of_decide_eq_true (by kernel_rfl)) (by unfold Func.isWrapper; first | (rw [if_pos (by decide +kernel)]; kernel_rfl) | (rw [if_neg (by decide +kernel)]; exact ⟨rfl, rfl⟩))
    (fun os started H enc _ => lifted os started H enc)

theorem proved : Rows.FnPlainBytesCardSaid :=
  Claim7.holds_tied_plain_at .later [] Rows.fnPlainBytesCard.laidKinds true Rows.fnPlainBytesCard.stood.harness true over (fun _ h => by cases h) (by kernel_rfl) (fun _ h => by cases h) fnPlainBytes_row_tie rfl ⟨rfl, rfl⟩ (by kernel_rfl) rfl
    (fun f fn hf hfn => by
      obtain rfl : f = 6 := Option.some.inj ((show Tryd.prog.funcNamed Rows.fnPlainBytesRow.func = some 6 by kernel_rfl).symm.trans hf) |>.symm
      obtain rfl : fn = Tryd.f6 := (Option.some.inj (Tryd.func6.symm.trans hfn)).symm
      exact ⟨by kernel_rfl, fun j t ht => by
        rw [Tryd.params6] at ht
        have hm : t ∈ [22] := by simpa using Array.mem_of_getElem? ht
        have hall : ([22].all fun u => !Tryd.prog.wantsStandIn u) = true := by kernel_rfl
        exact (show Tryd.prog.wantsStandIn t = false by simpa using List.all_eq_true.1 hall t hm)⟩)
    (by kernel_rfl)
end Go.Proofs.YtfmokdgapfbkbaaDoor.fnPlainBytes


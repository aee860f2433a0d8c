/-
  Of decided pairs, two patterns with a star between them match a name exactly if the one matches a beginning of it, the other one an end of it behind that, and no slash is between both: the law returns true for every input and leaves it as it was. Conditions: none.
  The frame round the walk is the kit's own (proof-skeleton.mjs).
-/
import Derived.Test.YtpkhcndhckocnaaDoorRows
import Derived.Test.YtpkhcndhckocnaaDoorDrawN
import Derived.Test.YtpkhcndhckocnaaDoorLawF
import Derived.Test.YtpkhcndhckocnaaDoorTie
import Derived.Test.YtpkhcndhckocnaaDoorCards
import Derived.Test.YtpkhcndhckocnaaDoorLaid
import Derived.LaidMore
import Derived.Lay
import Derived.SevenTiedAt
import Derived.Stop.Joined
namespace Go.Proofs.YtpkhcndhckocnaaDoor.fnStarCuts
open Go.ChangeShapes Go.WideShapes Go.ChangeAt Go.RowKit
open Go.ChangeMaps (open_string shut_string)
set_option linter.unusedVariables false

set_option maxHeartbeats 2000000 in
theorem walk (a : Option Addr) (len cap : Nat) (zs : List Int) (w : World) (hr : IsRow .u8 w a len cap zs) (ae : Addr) (hE : Env ae w) :
    Calls Tryd.prog 8 #[.slice a len cap] w fun e w' => e = .returned (.bool true) ∧ Below w.heap.size w w' := by
  have HR := Lib.hid hr
  have HE := Lib.hid hE
  clear hr hE
  by_cases hlen : 1048576 < len
  · have hl' : (1048576 : Int) < len := by omega
    go_enter Tryd.func8, Tryd.ntmps8
    go_wp2
    go_ret
    exact ⟨rfl, Below.refl _ _⟩
  · have hl' : ¬ (1048576 : Int) < len := by omega
    go_enter Tryd.func8, Tryd.ntmps8
    go_wp2_with fail
    refine (drawConcat_any a len cap zs _ HR.out (by omega)).mono ?_
    rintro e w1 ⟨p, q, n, rfl, hpl, hql, hnl, hb⟩
    have HE1 := Lib.hid (HE.out.on hb)
    have HB1 := Lib.hid hb
    clear hb HR HE
    go_wp2_with fail
    refine (yesStar ae w1 HE1.out).mono ?_
    rintro e w2 ⟨rfl, hb⟩
    have HE2 := Lib.hid (HE1.out.on hb)
    have HB2 := Lib.hid (HB1.out.trans (hb.mono HB1.out.size))
    clear hb HE1 HB1
    go_wp2_with fail
    refine (wellFormedB ae _ p w2 HE2.out rfl (by omega)).mono ?_
    rintro e w3 ⟨rfl, hb⟩
    have HE3 := Lib.hid (HE2.out.on hb)
    have HB3 := Lib.hid (HB2.out.trans (hb.mono HB2.out.size))
    clear hb HE2 HB2
    generalize hA : wfB p = A
    have HA := Lib.hid hA
    clear hA
    cases A with
    | false =>
      go_wp2
      go_ret
      exact ⟨rfl, HB3.out⟩
    | true =>
      go_wp2_with fail
      refine (wellFormedB ae _ q w3 HE3.out rfl (by omega)).mono ?_
      rintro e w4 ⟨rfl, hb⟩
      have HE4 := Lib.hid (HE3.out.on hb)
      have HB4 := Lib.hid (HB3.out.trans (hb.mono HB3.out.size))
      clear hb HE3 HB3
      generalize hB : wfB q = B
      have HB := Lib.hid hB
      clear hB
      cases B with
      | false =>
        go_wp2
        go_ret
        exact ⟨rfl, HB4.out⟩
      | true =>
        go_wp2_with fail
        refine (decidedCB ae _ _ (p ++ [42] ++ q) n w4 HE4.out (by simp) rfl (by simp; omega) (by omega)).mono ?_
        rintro e w5 ⟨rfl, hb⟩
        have HE5 := Lib.hid (HE4.out.on hb)
        have HB5 := Lib.hid (HB4.out.trans (hb.mono HB4.out.size))
        clear hb HE4 HB4
        generalize hC : decdB (p ++ [42] ++ q) n = C
        have HC := Lib.hid hC
        clear hC
        cases C with
        | false =>
          go_wp2
          go_ret
          exact ⟨rfl, HB5.out⟩
        | true =>
          have hv : Lib.validD n = true := by
            obtain ⟨ts, tp⟩ := tms_of HA.out
            obtain ⟨us, tq⟩ := tms_of HB.out
            exact (decd_dcd ((tp.app tms_star).app tq) HC.out).1
          have HQ := Lib.hid (law_starCuts HA.out HB.out HC.out)
          have HCN : Hid (∀ x ∈ cutsL n, x ≤ n.length) := Lib.hid (by
            intro x hx
            obtain ⟨i, _, rfl⟩ := cuts_mem hv hx
            exact (cut_facts hv i).2.2.2.2)
          have hcl := cutsL_len n
          have hrl := runes_len _ n (Nat.le_refl _)
          clear hv HA HB HC
          go_wp2_with fail
          refine (cuts_call ae n w5 HE5.out (by omega)).mono ?_
          rintro e w6 ⟨v, rfl, ⟨gg, cc, rfl, hcc, hcm, hgg, hcells⟩, hb⟩
          have HE6 := Lib.hid (HE5.out.on hb)
          have HB6 := Lib.hid (HB5.out.trans (hb.mono HB5.out.size))
          clear hb HE5 HB5
          unfold maxLen at hcm
          have HCE := Lib.hid hcells
          have hcb : (cutsL n).length ≤ 2000000 := by omega
          clear hcells hcl hrl
          generalize cutsL n = C at *
          go_wp2
          go_loopw [6, 44] (fun want i wr => ∃ k : Nat, i = .int .i64 (k : Nat) ∧ k ≤ C.length ∧ want = .bool ((C.take k).any fun i => C.any fun j => cutF p q n i j) ∧ Below w6.heap.size w6 wr) (fun _ i _ => C.length - (intOf i).toNat)
          case atStart => exact ⟨0, rfl, by omega, rfl, Below.refl _ _⟩
          case round =>
            obtain ⟨k, rfl, hk, rfl, hb⟩ := hrel
            have HBL := Lib.hid hb
            clear hb
            by_cases hkl : k < C.length
            · obtain ⟨x, hx⟩ : ∃ x, C[k]? = some x := ⟨_, List.getElem?_eq_getElem hkl⟩
              have hxn := HCN.out x (List.mem_of_getElem? hx)
              have hce := (HBL.out.cell (p := ⟨gg, k, none⟩) hgg).trans (HCE.out k x hx)
              have HN : Hid (((C.take (k + 1)).any fun i => C.any fun j => cutF p q n i j) = (((C.take k).any fun i => C.any fun j => cutF p q n i j) || C.any fun j => cutF p q n x j)) := Lib.hid (by rw [List.take_add_one, hx]; simp)
              have hxi : (x : Int) ≤ (n.length : Int) := by omega
              clear hx HQ
              generalize ((C.take k).any fun i => C.any fun j => cutF p q n i j) = W at *
              go_wp2
              go_loopw [6, 50] (fun want j wq => ∃ l : Nat, j = .int .i64 (l : Nat) ∧ l ≤ C.length ∧ want = .bool (W || (C.take l).any fun j => cutF p q n x j) ∧ Below w6.heap.size w6 wq) (fun _ j _ => C.length - (intOf j).toNat)
              case atStart => exact ⟨0, rfl, by omega, by simp, HBL.out⟩
              case round =>
                obtain ⟨l, rfl, hl, rfl, hb2⟩ := hrel
                have HBQ := Lib.hid hb2
                clear hb2 HBL hce
                rename_i wq
                by_cases hll : l < C.length
                · obtain ⟨y, hy⟩ : ∃ y, C[l]? = some y := ⟨_, List.getElem?_eq_getElem hll⟩
                  have hyn := HCN.out y (List.mem_of_getElem? hy)
                  have hcy := (HBQ.out.cell (p := ⟨gg, l, none⟩) hgg).trans (HCE.out l y hy)
                  have HN2 : Hid ((W || (C.take (l + 1)).any fun j => cutF p q n x j) = ((W || (C.take l).any fun j => cutF p q n x j) || cutF p q n x y)) := Lib.hid (by rw [List.take_add_one, hy]; simp [Bool.or_assoc])
                  have hyi : (y : Int) ≤ (n.length : Int) := by omega
                  have HCF : Hid (cutF p q n x y = (decide (x ≤ y) && (!((n.drop x).take (max x y - x)).contains 47 && (mm p (n.take x) && mm q (n.drop y))))) := Lib.hid rfl
                  clear hy HCE HCN HN
                  generalize (W || (C.take l).any fun j => cutF p q n x j) = V at *
                  generalize cutF p q n x y = F at *
                  cases V with
                  | true =>
                    have HF : Hid ((W || (C.take (l + 1)).any fun j => cutF p q n x j) = true) := Lib.hid HN2.out
                    clear HN2 HCF
                    go_wp2
                    go_roundw
                    case rel => exact ⟨l + 1, by go_num, by omega, by rw [HF.out], HBQ.out⟩
                    case measure => simp [intOf]; omega
                  | false =>
                    have HF : Hid ((W || (C.take (l + 1)).any fun j => cutF p q n x j) = F) := Lib.hid HN2.out
                    clear HN2
                    by_cases hxy : x ≤ y
                    · have hmx : max (x : Int) (y : Int) = (y : Int) := by omega
                      have hmn : max x y = y := by omega
                      have hxyi : (x : Int) ≤ (y : Int) := by omega
                      rw [hmn, decide_eq_true hxy, Bool.true_and] at HCF
                      clear hmn
                      have HE2 := Lib.hid (HE6.out.on HBQ.out)
                      go_wp2_with fail
                      refine (slashB _ ((n.drop x).take (y - x)) _ (ba_mid n x y)).mono ?_
                      rintro e w1' ⟨rfl, hb⟩
                      have HE3 := Lib.hid (HE2.out.on hb)
                      have HB3 := Lib.hid (HBQ.out.trans (hb.mono HBQ.out.size))
                      clear hb HE2 HBQ
                      generalize ((n.drop x).take (y - x)).contains 47 = Z at *
                      cases Z with
                      | true =>
                        obtain rfl : F = false := HCF.out
                        clear HCF
                        go_wp2
                        go_roundw
                        case rel => exact ⟨l + 1, by go_num, by omega, by rw [HF.out], HB3.out⟩
                        case measure => simp [intOf]; omega
                      | false =>
                        have HC2 : Hid (F = (mm p (n.take x) && mm q (n.drop y))) := Lib.hid HCF.out
                        clear HCF
                        go_wp2_with fail
                        refine (yesB ae _ _ p (n.take x) _ HE3.out rfl (ba_take n x _ _ rfl rfl) (by omega) (by rw [List.length_take]; omega)).mono ?_
                        rintro e w2' ⟨rfl, hb⟩
                        have HE4 := Lib.hid (HE3.out.on hb)
                        have HB4 := Lib.hid (HB3.out.trans (hb.mono HB3.out.size))
                        clear hb HE3 HB3
                        generalize mm p (n.take x) = M1 at *
                        cases M1 with
                        | false =>
                          obtain rfl : F = false := HC2.out
                          clear HC2
                          go_wp2
                          go_roundw
                          case rel => exact ⟨l + 1, by go_num, by omega, by rw [HF.out], HB4.out⟩
                          case measure => simp [intOf]; omega
                        | true =>
                          go_wp2_with fail
                          refine (yesB ae _ _ q (n.drop y) _ HE4.out rfl (ba_drop n y _ rfl) (by omega) (by rw [List.length_drop]; omega)).mono ?_
                          rintro e w3' ⟨rfl, hb⟩
                          have HB5 := Lib.hid (HB4.out.trans (hb.mono HB4.out.size))
                          clear hb HE4 HB4
                          generalize mm q (n.drop y) = M2 at *
                          obtain rfl : F = M2 := HC2.out
                          clear HC2
                          cases F
                          all_goals
                            go_wp2
                            go_roundw
                            case rel => exact ⟨l + 1, by go_num, by omega, by rw [HF.out], HB5.out⟩
                            case measure => simp [intOf]; omega
                    · have hxyi : ¬ (x : Int) ≤ (y : Int) := by omega
                      obtain rfl : F = false := by rw [HCF.out, decide_eq_false hxy]; rfl
                      clear HCF hxy
                      go_wp2
                      go_roundw
                      case rel => exact ⟨l + 1, by go_num, by omega, by rw [HF.out], HBQ.out⟩
                      case measure => simp [intOf]; omega
                · obtain rfl : l = C.length := by omega
                  have HF : Hid (((C.take (k + 1)).any fun i => C.any fun j => cutF p q n i j) = (W || (C.take C.length).any fun j => cutF p q n x j)) := Lib.hid (by rw [List.take_length]; exact HN.out)
                  clear HN HCE HCN
                  generalize (W || (C.take C.length).any fun j => cutF p q n x j) = V at *
                  go_wp2
                  go_roundw
                  case rel => exact ⟨k + 1, by go_num, by omega, by rw [HF.out], HBQ.out⟩
                  case measure => simp [intOf]; omega
            · obtain rfl : k = C.length := by omega
              rw [List.take_length]
              have HE2 := Lib.hid (HE6.out.on HBL.out)
              have HQ2 := Lib.hid HQ.out.symm
              clear HQ HCE HCN
              generalize (C.any fun i => C.any fun j => cutF p q n i j) = W at *
              go_wp2_with fail
              refine (yesB ae _ _ (p ++ [42] ++ q) n wr HE2.out (by simp) rfl (by simp; omega) (by omega)).mono ?_
              rintro e w' ⟨rfl, hb⟩
              have HBF := Lib.hid (HB6.out.trans ((HBL.out.trans (hb.mono HBL.out.size)).mono HB6.out.size))
              rw [← HQ2.out]
              clear hb HQ2
              cases W
              all_goals
                go_wp2
                go_ret
                exact ⟨rfl, HBF.out⟩


set_option maxRecDepth 100000 in
theorem lifted (os : Os) (started : os.Started) (H : Type) (enc : TypeId × Value → H) :
    ReturnsInHanded {} Tryd.checked os 8 .any (fun w args => (Rows.fnStarCutsSpec.pre enc Tryd.prog Tryd.f8 Rows.fnStarCutsRow.domain false w args ∧ laidMetH Tryd.prog Rows.fnStarCutsRow.laid w) ∧ sizedMet enc Tryd.prog Tryd.f8 (OpenSpec.ofChange Rows.fnStarCutsSpec) false w args) (Rows.fnStarCutsSpec.post enc Tryd.prog Tryd.f8 false true false false) := by
  refine returnsInHanded_of_change_and (C := Tryd.checked) (X := fun w _ => laidMetH Tryd.prog Rows.fnStarCutsRow.laid w) (fun _ _ _ hh h => h.of_heap hh) own started (by kernel_rfl) Tryd.func8
    (ChangeSpec.witness_shaped (enc := enc) (C := Tryd.checked) (os := os) (X := fun w _ => laidMetH Tryd.prog Rows.fnStarCutsRow.laid w) false (World.laidAll Tryd.prog os Rows.fnStarCutsRow.laid) #[.slice none 0 0] 8 (World.laidAll_os _ _ _)
      (World.shaped_of_ZipB (by kernel_rfl) (by kernel_rfl)) (by kernel_rfl) (by kernel_rfl) (by kernel_rfl)
      (by rw [MakeChecks.laidMetH_plain _ _ _ (by kernel_rfl)]; exact laidMet_laidAll _ (by kernel_rfl) (by kernel_rfl))) ?_
  intro W base args ds gs before hval0 hW hcnd hsz0 hL _
  have hval : ∀ (j : Nat) t v, Tryd.f8.params[j]? = some t → args[j]? = some v → Value.okWide Tryd.prog W .any base t v := hval0
  have hW' := hW
  obtain ⟨p, q, hA0, hV, rfl, hfz, hnd⟩ := hW
  have hA : DataW.TrodAll enc Tryd.prog W 0 (fun _ => true) true Tryd.f8.params.toList args.toList ds p := hA0
  rw [Tryd.params8] at hA hval
  obtain ⟨v0, vs0, d0, ds0, p0, q0, hargs, rfl, rfl, h0, r0⟩ := trodAll_cons hA
  obtain ⟨rfl, rfl, rfl⟩ := trodAll_nil r0
  obtain rfl : args = #[v0] := by cases args; simp_all
  obtain ⟨rfl, rfl⟩ := trodVars_none hV
  obtain ⟨a0, len0, cap0, rfl⟩ := okWide_slice Tryd.underlying22 (hval 0 22 v0 rfl rfl)
  have k0 := h0
  have lt0 : ∀ x ∈ p0, x.block < W.heap.size := by obtain ⟨m, hm⟩ := k0; exact DataW.trod_lt m _ _ _ hm
  obtain ⟨z0, w0⟩ : ∃ zs, IsRow .u8 W a0 len0 cap0 zs := by
    obtain ⟨fuel, hf⟩ := h0
    rcases open_ints Tryd.underlying22 Tryd.underlying5 (by kernel_rfl) hf with ⟨hcs, _⟩ | ⟨x, l, c, zs, hcs, _, hl, hm, hz, _, hcell, hwz⟩
    · simp [Value.cells] at hcs
      obtain ⟨rfl, rfl, rfl⟩ := hcs
      exact ⟨[], .inl ⟨rfl, rfl, rfl, rfl⟩⟩
    · simp [Value.cells] at hcs
      obtain ⟨rfl, rfl, rfl⟩ := hcs
      exact ⟨zs, .inr ⟨_, rfl, hl, hm, by simpa using hz, hcell, hwz⟩⟩
  obtain ⟨ae, hE⟩ := env_of hL
  clear hA0 hval0
  refine (walk a0 len0 cap0 z0 W w0 ae hE).mono fun e W' ⟨he, bel⟩ => ?_
  subst he
  exact ⟨_, rfl, _, _, _, [], _, [], hW', trodAll_mk1 (shut_bool Tryd.underlying4 _), (trodAll_cons_mk (Below.trod laidOut (by kernel_rfl) (of_decide_eq_true (by kernel_rfl)) k0 bel lt0) trodAll_mk0), rfl, bel.frame _, fun h => by cases h⟩

theorem over : Rows.fnStarCutsRow.holds Tryd.pinned (OpenSpec.ofChange Rows.fnStarCutsSpec) :=
  OpenClaim.holds_of_wide 8 Tryd.f8 rfl rfl rfl rfl rfl rfl rfl ⟨rfl, rfl, rfl, rfl, rfl⟩ rfl rfl rfl rfl rfl (by kernel_rfl) Tryd.func8 (by kernel_rfl)
    (of_decide_eq_true (by kernel_rfl)) (by unfold Func.isWrapper; first | (rw [if_pos (by decide +kernel)]; kernel_rfl) | (rw [if_neg (by decide +kernel)]; exact ⟨rfl, rfl⟩))
    (fun os started H enc _ => lifted os started H enc)

theorem proved : Rows.FnStarCutsCardSaid :=
  Claim7.holds_tied_plain_at .later [] Rows.fnStarCutsCard.laidKinds true Rows.fnStarCutsCard.stood.harness true over (fun _ h => by cases h) (by kernel_rfl) (fun _ h => by cases h) fnStarCuts_row_tie rfl ⟨rfl, rfl⟩ (by kernel_rfl) rfl
    (fun f fn hf hfn => by
      obtain rfl : f = 8 := Option.some.inj ((show Tryd.prog.funcNamed Rows.fnStarCutsRow.func = some 8 by kernel_rfl).symm.trans hf) |>.symm
      obtain rfl : fn = Tryd.f8 := (Option.some.inj (Tryd.func8.symm.trans hfn)).symm
      exact ⟨by kernel_rfl, fun j t ht => by
        rw [Tryd.params8] at ht
        have hm : t ∈ [22] := by simpa using Array.mem_of_getElem? ht
        have hall : ([22].all fun u => !Tryd.prog.wantsStandIn u) = true := by kernel_rfl
        exact (show Tryd.prog.wantsStandIn t = false by simpa using List.all_eq_true.1 hall t hm)⟩)
    (by kernel_rfl)
end Go.Proofs.YtpkhcndhckocnaaDoor.fnStarCuts


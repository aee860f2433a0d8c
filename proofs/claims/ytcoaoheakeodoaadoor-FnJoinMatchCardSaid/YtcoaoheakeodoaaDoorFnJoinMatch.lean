/-
  Of decided pairs, patterns that are elements of paths and match no slash, joined, match names that are elements, joined, exactly if each matches its own: the law returns true for every input and leaves it as it was. Conditions: none.
  The frame round the walk is the kit's own (proof-skeleton.mjs).
-/
import Derived.Test.YtcoaoheakeodoaaDoorRows
import Derived.Test.YtcoaoheakeodoaaDoorPiec
import Derived.Test.YtcoaoheakeodoaaDoorTie
import Derived.Test.YtcoaoheakeodoaaDoorCards
import Derived.Test.YtcoaoheakeodoaaDoorLaid
import Derived.LaidMore
import Derived.Lay
import Derived.SevenTiedAt
import Derived.Stop.Joined
namespace Go.Proofs.YtcoaoheakeodoaaDoor.fnJoinMatch
open Go.ChangeShapes Go.WideShapes Go.ChangeAt Go.RowKit
open Go.ChangeMaps (open_string shut_string)
set_option linter.unusedVariables false

theorem dec_open : decdB [91] [] = false := by
  unfold decdB soundB
  rw [wf_open]
  rfl
def Els (L : List (Bs × Bs)) : Prop := ∀ x ∈ L, isEl x.1 = true ∧ isEl x.2 = true
theorem Els.snoc {L : List (Bs × Bs)} {x : Bs × Bs} (h : Els L) (h1 : isEl x.1 = true) (h2 : isEl x.2 = true) : Els (L ++ [x]) := by
  intro y hy
  rcases List.mem_append.1 hy with hy | hy
  · exact h y hy
  · obtain rfl := List.mem_singleton.1 hy
    exact ⟨h1, h2⟩
def JmRel (w : World) (L : List (Bs × Bs)) (p n i : Value) (wr : World) : Prop :=
  ∃ k : Nat, k ≤ L.length ∧ i = .int .i64 ((2 * k : Nat) : Int) ∧ Two w.heap.size wr p n ((L.take k).map (·.1)) ((L.take k).map (·.2)) ∧ Els (L.take k) ∧ Below w.heap.size w wr
set_option maxHeartbeats 2000000 in
theorem walk (a : Option Addr) (len cap : Nat) (zs : List Int) (w : World) (hr : IsRow .u8 w a len cap zs) (ae : Addr) (hE : Env ae w) :
    Calls Tryd.prog 4 #[.slice a len cap] w fun e w' => e = .returned (.bool true) ∧ Below w.heap.size w w' := by
  obtain ⟨i0, hi, hz0, hz1, hz2⟩ := info_parts infoStr
  have HR := Lib.hid hr
  have HE := Lib.hid hE
  clear hr hE
  by_cases hlen : 1048576 < len
  · have hl' : (1048576 : Int) < len := by omega
    go_enter Tryd.func4, Tryd.ntmps4
    go_wp2
    go_ret
    exact ⟨rfl, Below.refl _ _⟩
  · have hl' : ¬ (1048576 : Int) < len := by omega
    go_enter Tryd.func4, Tryd.ntmps4
    go_wp2_with fail
    refine (drawPieces_any a len cap zs _ HR.out (by omega)).mono ?_
    rintro e w1 ⟨v, ss, rfl, hO, ht, hb⟩
    obtain ⟨xs, hL, hlx⟩ := hO.lists
    have HE1 := Lib.hid (HE.out.on hb)
    have HB1 := Lib.hid hb
    have HL1 := Lib.hid hL
    obtain ⟨g, cp, rfl, _, hg1, hgc, hgm, hc1⟩ := hL.shape
    have HC1 := Lib.hid hc1
    unfold maxLen at hgm
    clear hb HR HE hO hL hc1
    go_wp2_with fail
    refine (yesStar ae w1 HE1.out).mono ?_
    rintro e w2 ⟨rfl, hb⟩
    have HE2 := Lib.hid (HE1.out.on hb)
    have HB2 := Lib.hid (HB1.out.trans (hb.mono HB1.out.size))
    have HL2 := Lib.hid (HL1.out.below hb (fun k hk => (HL1.out.blk k hk).2))
    have hgs : g < w2.heap.size := Nat.lt_of_lt_of_le hg1 hb.size
    have HC : Hid (∀ (j : Nat) x, xs[j]? = some x → w2.cell? ⟨g, j, none⟩ = some (S x)) := Lib.hid (fun j x hj => (hb.cell (p := ⟨g, j, none⟩) hg1).trans (HC1.out j x hj))
    clear hb HE1 HB1 HL1 HC1
    have hps := prs_lens xs
    have hpl := prs_len xs
    have HAT := Lib.hid (prs_at xs)
    have HMK := Lib.hid (Two.made w2)
    have hMB : Hid (Below w2.heap.size w2 ((w2.alloc (.cells #[] 9)).alloc (.cells #[] 9))) := ((Below.refl _ w2).alloc (Nat.le_refl _) _).alloc (by simp) _
    go_wp2
    go_loopw [4, 5, 6] (fun p n i wr => JmRel w2 (prs xs) p n i wr) (fun _ _ i _ => 2 * xs.length - (intOf i).toNat)
    case atStart => exact ⟨0, Nat.zero_le _, rfl, HMK.out, fun x hx => by simp at hx, hMB.out⟩
    case round =>
      clear HMK hMB
      obtain ⟨k, hk, rfl, h2, hP, hb⟩ := hrel
      have HT := Lib.hid h2
      have HP := Lib.hid hP
      have HB := Lib.hid hb
      have hbs := hb.size
      have ek : ((2 * k : Nat) : Int) = 2 * (k : Int) := by omega
      rw [ek]
      clear h2 hP hb ek
      by_cases hlt : 2 * k + 1 < xs.length
      · obtain ⟨x, y, hx, hy, hxy⟩ := HAT.out k hlt
        have c0 : wr.cell? ⟨g, 2 * k, none⟩ = some (S x) := (HB.out.cell (p := ⟨g, 2 * k, none⟩) hgs).trans (HC.out _ x hx)
        have c1 : wr.cell? ⟨g, 2 * k + 1, none⟩ = some (S y) := (HB.out.cell (p := ⟨g, 2 * k + 1, none⟩) hgs).trans (HC.out _ y hy)
        have HTK := Lib.hid (take_snocP hxy)
        have hz0' : (0 : Int) ≤ 2 * (k : Int) := by omega
        have hz1' : 2 * (k : Int) + 1 < (xs.length : Int) := by omega
        have hz2' : 2 * (k : Int) < (xs.length : Int) := by omega
        have hz3' : (0 : Int) ≤ 2 * (k : Int) + 1 := by omega
        clear hx hy hxy
        go_wp2_with fail
        refine (isElement_call _ x wr rfl).mono ?_
        rintro e w3 ⟨rfl, hb⟩
        have HB3 := Lib.hid (HB.out.trans (hb.mono HB.out.size))
        have HT3 := Lib.hid (HT.out.below hb)
        have c03 := (hb.cell (p := ⟨g, 2 * k, none⟩) (by show g < _; omega)).trans c0
        have c13 := (hb.cell (p := ⟨g, 2 * k + 1, none⟩) (by show g < _; omega)).trans c1
        have hs3 := hb.size
        clear hb HB HT c0 c1
        generalize hI1 : isEl x = I1
        have HI1 := Lib.hid hI1
        clear hI1
        cases I1 with
        | false =>
          have HBZ := Lib.hid (HB2.out.trans (HB3.out.mono HB2.out.size))
          go_wp2
          go_ret
          exact ⟨rfl, HBZ.out⟩
        | true =>
          go_wp2_with fail
          refine (isElement_call _ y w3 rfl).mono ?_
          rintro e w4 ⟨rfl, hb⟩
          have HB4 := Lib.hid (HB3.out.trans (hb.mono HB3.out.size))
          have HT4 := Lib.hid (HT3.out.below hb)
          have c04 := (hb.cell (p := ⟨g, 2 * k, none⟩) (by show g < _; omega)).trans c03
          have c14 := (hb.cell (p := ⟨g, 2 * k + 1, none⟩) (by show g < _; omega)).trans c13
          have hs4 := hb.size
          clear hb HB3 HT3 c03 c13
          generalize hI2 : isEl y = I2
          have HI2 := Lib.hid hI2
          clear hI2
          cases I2 with
          | false =>
            have HBZ := Lib.hid (HB2.out.trans (HB4.out.mono HB2.out.size))
            go_wp2
            go_ret
            exact ⟨rfl, HBZ.out⟩
          | true =>
            have HPN : Hid (Els ((prs xs).take (k + 1))) := Lib.hid (by rw [HTK.out]; exact HP.out.snoc HI1.out HI2.out)
            have HM1 : Hid (((prs xs).take (k + 1)).map (·.1) = ((prs xs).take k).map (·.1) ++ [x]) := Lib.hid (by rw [HTK.out]; simp)
            have HM2 : Hid (((prs xs).take (k + 1)).map (·.2) = ((prs xs).take k).map (·.2) ++ [y]) := Lib.hid (by rw [HTK.out]; simp)
            have hlp : (((prs xs).take k).map (·.1)).length ≤ k := by rw [List.length_map]; exact List.length_take_le _ _
            have hln : (((prs xs).take k).map (·.2)).length ≤ k := by rw [List.length_map]; exact List.length_take_le _ _
            clear HP HTK HI1 HI2
            generalize ((prs xs).take k).map (·.1) = PS at *
            generalize ((prs xs).take k).map (·.2) = NS at *
            go_wp2_with (at_builtin; refine wpList_append_lies _ rfl _ _ 40 rfl w2.heap.size 9 i0 (.string ByteArray.empty) 1 16 Tryd.underlying40 hi hz0 hz1 hz2 rfl (by decide) _ _ _ rfl (HT4.out.1.own.alloc _) ⟨w4.heap.size, 0, none⟩ 1 1 [S x] rfl rfl ?c1 ?c2 (by decide) ?c3 ?c4 ?c5 (w4.heap.size + 1) (by simp) ?_)
            case c1 => exact one_cells _ _ _
            case c2 => exact all_one [x]
            case c3 => unfold maxLen; omega
            case c4 => omega
            case c5 => simp; omega
            · intro g6 cap6 w6 hown hgrow hat hlt6
              have HT6 := Lib.hid (Two.add HT4.out hown hgrow hat)
              have HB6 := Lib.hid ((HB4.out.alloc HB4.out.size (.cells #[S x] 9)).grown hgrow (by simp; omega) (fun j e => (HT4.out.1.blk j e).1))
              have c16 := (HB6.out.cell (p := ⟨g, 2 * k + 1, none⟩) hgs).trans (((HB4.out.cell (p := ⟨g, 2 * k + 1, none⟩) hgs).symm.trans c14))
              have hs6 := HB6.out.size
              clear hown hgrow hat hlt6 HT4 HB4 c04 c14
              go_wp2_with (at_builtin; refine wpList_append_lies _ rfl _ _ 40 rfl w2.heap.size 9 i0 (.string ByteArray.empty) 1 16 Tryd.underlying40 hi hz0 hz1 hz2 rfl (by decide) _ _ _ rfl (HT6.out.2.1.own.alloc _) ⟨w6.heap.size, 0, none⟩ 1 1 [S y] rfl rfl ?d1 ?d2 (by decide) ?d3 ?d4 ?d5 (w6.heap.size + 1) (by simp) ?_)
              case d1 => exact one_cells _ _ _
              case d2 => exact all_one [y]
              case d3 => unfold maxLen; omega
              case d4 => omega
              case d5 => simp; omega
              · intro g7 cap7 w7 hown hgrow hat hlt7
                have HT7 := Lib.hid (Two.add HT6.out.swap hown hgrow hat).swap
                have HB7 := Lib.hid ((HB6.out.alloc HB6.out.size (.cells #[S y] 9)).grown hgrow (by simp; omega) (fun j e => (HT6.out.2.1.blk j e).1))
                clear hown hgrow hat hlt7 HT6 HB6 c16
                go_wp2
                go_roundw
                case rel => exact ⟨k + 1, by omega, by go_num, by rw [HM1.out, HM2.out]; exact HT7.out, HPN.out, HB7.out⟩
                case measure => simp [intOf]; omega
      · have hz1' : ¬ (2 * (k : Int) + 1 < (xs.length : Int)) := by omega
        have hke : (prs xs).take k = prs xs := List.take_of_length_le (by omega)
        rw [hke] at HT HP
        have hl1 := J_len ((prs xs).map (·.1))
        have hl2 := J_len ((prs xs).map (·.2))
        rw [List.length_map] at hl1 hl2
        have q5 : 2 * (k : Int) + 1 ≤ 4000000 := by omega
        have q6 : Lib.Pa.lens xs + xs.length ≤ 2000000 := by omega
        have hP1 : (ppat (prs xs)).length ≤ 3000000 := by show (J _).length ≤ _; omega
        have hP2 : (pname (prs xs)).length ≤ 3000000 := by show (J _).length ≤ _; omega
        have hw1 : Lib.Pa.lens ((prs xs).map (·.1)) + ((prs xs).map (·.1)).length ≤ 281474976710656 := by rw [List.length_map]; omega
        have hw2 : Lib.Pa.lens ((prs xs).map (·.2)) + ((prs xs).map (·.2)).length ≤ 281474976710656 := by rw [List.length_map]; omega
        have hw4 : ((prs xs).map (·.1)).length ≤ 2000000 := by rw [List.length_map]; omega
        clear hl1 hl2 hpl hps hke hlt hk
        have HE3 := Lib.hid (HE2.out.on HB.out)
        have HL3 := Lib.hid (HL2.out.below HB.out (fun k hk => (HL2.out.blk k hk).2))
        have HBZ := Lib.hid (HB2.out.trans (HB.out.mono HB2.out.size))
        clear HB HE2 HL2 HB2 HC HAT
        obtain ⟨ga, ca, rfl, _, _, _, hcm, _⟩ := HT.out.1.shape
        obtain ⟨gb, cb, rfl, _⟩ := HT.out.2.1.shape
        simp only [List.length_map] at HT
        unfold maxLen at hcm
        go_wp2_with fail
        refine (pieces_call ae w.heap.size _ xs wr HL3.out HE3.out q6).mono ?_
        rintro e w3 ⟨hb, hpi⟩
        have HE4 := Lib.hid (HE3.out.on hb)
        have HB4 := Lib.hid (HBZ.out.trans (hb.mono HBZ.out.size))
        have HT4 := Lib.hid (HT.out.below hb)
        clear hb HE3 HBZ HL3 HT
        rcases hpi with ⟨hP, rfl⟩ | rfl
        · have HL := Lib.hid (fun hd => (law_parts hP hd).1)
          have hJ1 : prs xs ≠ [] → Lib.Pa.join ((prs xs).map (·.1)) = ppat (prs xs) := fun hne => join_els _ (by simpa using hne) (fun x hx => by
            obtain ⟨z, hz, rfl⟩ := List.mem_map.1 hx
            exact (HP.out z hz).1)
          have hJ2 : prs xs ≠ [] → Lib.Pa.join ((prs xs).map (·.2)) = pname (prs xs) := fun hne => join_els _ (by simpa using hne) (fun x hx => by
            obtain ⟨z, hz, rfl⟩ := List.mem_map.1 hx
            exact (HP.out z hz).2)
          have HJ1 := Lib.hid hJ1
          have HJ2 := Lib.hid hJ2
          have hw3 : ((prs xs).map (·.1)).length = (prs xs).length := List.length_map _
          have HW3 := Lib.hid hw3
          clear hP hJ1 hJ2 HP hw3
          generalize ppat (prs xs) = P at *
          generalize pname (prs xs) = N at *
          generalize pwant (prs xs) = WT at *
          go_wp2_with fail
          refine (decidedCB ae _ _ P N w3 HE4.out rfl rfl (by omega) (by omega)).mono ?_
          rintro e w4 ⟨rfl, hb⟩
          have HE5 := Lib.hid (HE4.out.on hb)
          have HB5 := Lib.hid (HB4.out.trans (hb.mono HB4.out.size))
          have HT5 := Lib.hid (HT4.out.below hb)
          clear hb HE4 HB4 HT4
          generalize hD : decdB P N = D
          have HD := Lib.hid hD
          clear hD
          cases D with
          | false =>
            go_wp2
            go_ret
            exact ⟨rfl, HB5.out⟩
          | true =>
            have H1 := Lib.hid (HL.out HD.out)
            clear HL HD
            by_cases hne : prs xs = []
            · have hq : (prs xs).length = 0 := by rw [hne]; rfl
              rw [hq]
              go_wp2
              go_ret
              exact ⟨rfl, HB5.out⟩
            · have hj1 := HJ1.out hne
              have hj2 := HJ2.out hne
              have hqb : (((prs xs).length : Int) == 0) = false := by simpa using hne
              have G1 := Lib.hid hj1
              have G2 := Lib.hid hj2
              clear hj1 hj2 HJ1 HJ2 hne HW3 hz1'
              generalize (prs xs).map (·.1) = PS at *
              generalize (prs xs).map (·.2) = NS at *
              generalize (prs xs).length = RL at *
              go_wp2_with fail
              refine (joinOwn w2.heap.size _ PS w4 HT5.out.1 hw1).mono ?_
              rintro e w5 ⟨rfl, hb⟩
              rw [G1.out]
              have HE6 := Lib.hid (HE5.out.on hb)
              have HB6 := Lib.hid (HB5.out.trans (hb.mono HB5.out.size))
              have HT6 := Lib.hid (HT5.out.below hb)
              clear hb HE5 HB5 HT5
              go_wp2_with fail
              refine (joinOwn w2.heap.size _ NS w5 HT6.out.2.1 hw2).mono ?_
              rintro e w6 ⟨rfl, hb⟩
              rw [G2.out]
              have HE7 := Lib.hid (HE6.out.on hb)
              have HB7 := Lib.hid (HB6.out.trans (hb.mono HB6.out.size))
              clear hb HE6 HB6 HT6
              go_wp2_with fail
              refine (yesB ae _ _ P N w6 HE7.out rfl rfl (by omega) (by omega)).mono ?_
              rintro e w7 ⟨rfl, hb⟩
              rw [H1.out]
              have HB8 := Lib.hid (HB7.out.trans (hb.mono HB7.out.size))
              clear hb HE7 HB7 H1
              cases WT
              all_goals
                go_wp2
                go_ret
                exact ⟨rfl, HB8.out⟩
        · go_wp2_with fail
          refine (decidedCB ae _ _ [91] [] w3 HE4.out rfl rfl (by simp) (by simp)).mono ?_
          rintro e w4 ⟨rfl, hb⟩
          have HB5 := Lib.hid (HB4.out.trans (hb.mono HB4.out.size))
          rw [dec_open]
          clear hb HE4 HB4
          go_wp2
          go_ret
          exact ⟨rfl, HB5.out⟩


set_option maxRecDepth 100000 in
theorem lifted (os : Os) (started : os.Started) (H : Type) (enc : TypeId × Value → H) :
    ReturnsInHanded {} Tryd.checked os 4 .any (fun w args => (Rows.fnJoinMatchSpec.pre enc Tryd.prog Tryd.f4 Rows.fnJoinMatchRow.domain false w args ∧ laidMetH Tryd.prog Rows.fnJoinMatchRow.laid w) ∧ sizedMet enc Tryd.prog Tryd.f4 (OpenSpec.ofChange Rows.fnJoinMatchSpec) false w args) (Rows.fnJoinMatchSpec.post enc Tryd.prog Tryd.f4 false true false false) := by
  refine returnsInHanded_of_change_and (C := Tryd.checked) (X := fun w _ => laidMetH Tryd.prog Rows.fnJoinMatchRow.laid w) (fun _ _ _ hh h => h.of_heap hh) own started (by kernel_rfl) Tryd.func4
    (ChangeSpec.witness_shaped (enc := enc) (C := Tryd.checked) (os := os) (X := fun w _ => laidMetH Tryd.prog Rows.fnJoinMatchRow.laid w) false (World.laidAll Tryd.prog os Rows.fnJoinMatchRow.laid) #[.slice none 0 0] 8 (World.laidAll_os _ _ _)
      (World.shaped_of_ZipB (by kernel_rfl) (by kernel_rfl)) (by kernel_rfl) (by kernel_rfl) (by kernel_rfl)
      (by rw [MakeChecks.laidMetH_plain _ _ _ (by kernel_rfl)]; exact laidMet_laidAll _ (by kernel_rfl) (by kernel_rfl))) ?_
  intro W base args ds gs before hval0 hW hcnd hsz0 hL _
  have hval : ∀ (j : Nat) t v, Tryd.f4.params[j]? = some t → args[j]? = some v → Value.okWide Tryd.prog W .any base t v := hval0
  have hW' := hW
  obtain ⟨p, q, hA0, hV, rfl, hfz, hnd⟩ := hW
  have hA : DataW.TrodAll enc Tryd.prog W 0 (fun _ => true) true Tryd.f4.params.toList args.toList ds p := hA0
  rw [Tryd.params4] at hA hval
  obtain ⟨v0, vs0, d0, ds0, p0, q0, hargs, rfl, rfl, h0, r0⟩ := trodAll_cons hA
  obtain ⟨rfl, rfl, rfl⟩ := trodAll_nil r0
  obtain rfl : args = #[v0] := by cases args; simp_all
  obtain ⟨rfl, rfl⟩ := trodVars_none hV
  obtain ⟨a0, len0, cap0, rfl⟩ := okWide_slice Tryd.underlying22 (hval 0 22 v0 rfl rfl)
  have k0 := h0
  have lt0 : ∀ x ∈ p0, x.block < W.heap.size := by obtain ⟨m, hm⟩ := k0; exact DataW.trod_lt m _ _ _ hm
  obtain ⟨z0, w0⟩ : ∃ zs, IsRow .u8 W a0 len0 cap0 zs := by
    obtain ⟨fuel, hf⟩ := h0
    rcases open_ints Tryd.underlying22 Tryd.underlying5 (by kernel_rfl) hf with ⟨hcs, _⟩ | ⟨x, l, c, zs, hcs, _, hl, hm, hz, _, hcell, hwz⟩
    · simp [Value.cells] at hcs
      obtain ⟨rfl, rfl, rfl⟩ := hcs
      exact ⟨[], .inl ⟨rfl, rfl, rfl, rfl⟩⟩
    · simp [Value.cells] at hcs
      obtain ⟨rfl, rfl, rfl⟩ := hcs
      exact ⟨zs, .inr ⟨_, rfl, hl, hm, by simpa using hz, hcell, hwz⟩⟩
  obtain ⟨ae, hE⟩ := env_of hL
  clear hA0 hval0
  refine (walk a0 len0 cap0 z0 W w0 ae hE).mono fun e W' ⟨he, bel⟩ => ?_
  subst he
  exact ⟨_, rfl, _, _, _, [], _, [], hW', trodAll_mk1 (shut_bool Tryd.underlying4 _), (trodAll_cons_mk (Below.trod laidOut (by kernel_rfl) (of_decide_eq_true (by kernel_rfl)) k0 bel lt0) trodAll_mk0), rfl, bel.frame _, fun h => by cases h⟩

theorem over : Rows.fnJoinMatchRow.holds Tryd.pinned (OpenSpec.ofChange Rows.fnJoinMatchSpec) :=
  OpenClaim.holds_of_wide 4 Tryd.f4 rfl rfl rfl rfl rfl rfl rfl ⟨rfl, rfl, rfl, rfl, rfl⟩ rfl rfl rfl rfl rfl (by kernel_rfl) Tryd.func4 (by kernel_rfl)
    (of_decide_eq_true (by kernel_rfl)) (by unfold Func.isWrapper; first | (rw [if_pos (by decide +kernel)]; kernel_rfl) | (rw [if_neg (by decide +kernel)]; exact ⟨rfl, rfl⟩))
    (fun os started H enc _ => lifted os started H enc)

theorem proved : Rows.FnJoinMatchCardSaid :=
  Claim7.holds_tied_plain_at .later [] Rows.fnJoinMatchCard.laidKinds true Rows.fnJoinMatchCard.stood.harness true over (fun _ h => by cases h) (by kernel_rfl) (fun _ h => by cases h) fnJoinMatch_row_tie rfl ⟨rfl, rfl⟩ (by kernel_rfl) rfl
    (fun f fn hf hfn => by
      obtain rfl : f = 4 := Option.some.inj ((show Tryd.prog.funcNamed Rows.fnJoinMatchRow.func = some 4 by kernel_rfl).symm.trans hf) |>.symm
      obtain rfl : fn = Tryd.f4 := (Option.some.inj (Tryd.func4.symm.trans hfn)).symm
      exact ⟨by kernel_rfl, fun j t ht => by
        rw [Tryd.params4] at ht
        have hm : t ∈ [22] := by simpa using Array.mem_of_getElem? ht
        have hall : ([22].all fun u => !Tryd.prog.wantsStandIn u) = true := by kernel_rfl
        exact (show Tryd.prog.wantsStandIn t = false by simpa using List.all_eq_true.1 hall t hm)⟩)
    (by kernel_rfl)
end Go.Proofs.YtcoaoheakeodoaaDoor.fnJoinMatch


/-
  Of decided pairs, a pattern with its terms in reverse order answers names with their characters in reverse order as before: the law returns true for every input and leaves it as it was. Conditions: none.
  The frame round the walk is the kit's own (proof-skeleton.mjs).
-/
import Derived.Test.YtpkhcndhckocnaaDoorRows
import Derived.Test.YtpkhcndhckocnaaDoorTermH
import Derived.Test.YtpkhcndhckocnaaDoorDrawM
import Derived.Test.YtpkhcndhckocnaaDoorTie
import Derived.Test.YtpkhcndhckocnaaDoorCards
import Derived.Test.YtpkhcndhckocnaaDoorLaid
import Derived.LaidMore
import Derived.Lay
import Derived.SevenTiedAt
import Derived.Stop.Joined
namespace Go.Proofs.YtpkhcndhckocnaaDoor.fnTurned
open Go.ChangeShapes Go.WideShapes Go.ChangeAt Go.RowKit
open Go.ChangeMaps (open_string shut_string)
set_option linter.unusedVariables false

set_option maxHeartbeats 2000000 in
theorem walk (a : Option Addr) (len cap : Nat) (zs : List Int) (w : World) (hr : IsRow .u8 w a len cap zs) (ae : Addr) (hE : Env ae w) :
    Calls Tryd.prog 11 #[.slice a len cap] w fun e w' => e = .returned (.bool true) ∧ Below w.heap.size w w' := by
  have HR := Lib.hid hr
  have HE := Lib.hid hE
  clear hr hE
  by_cases hlen : 1048576 < len
  · have hl' : (1048576 : Int) < len := by omega
    go_enter Tryd.func11, Tryd.ntmps11
    go_wp2
    go_ret
    exact ⟨rfl, Below.refl _ _⟩
  · have hl' : ¬ (1048576 : Int) < len := by omega
    go_enter Tryd.func11, Tryd.ntmps11
    go_wp2_with fail
    refine (drawMatch_any a len cap zs _ HR.out (by omega)).mono ?_
    rintro e w1 ⟨p, n, rfl, hpl, hnl, hb⟩
    have HE1 := Lib.hid (HE.out.on hb)
    have HB1 := Lib.hid hb
    clear hb HR HE
    go_wp2_with fail
    refine (yesStar ae w1 HE1.out).mono ?_
    rintro e w2 ⟨rfl, hb⟩
    have HE2 := Lib.hid (HE1.out.on hb)
    have HB2 := Lib.hid (HB1.out.trans (hb.mono HB1.out.size))
    clear hb HE1 HB1
    go_wp2_with fail
    refine (decidedCB ae _ _ p n w2 HE2.out rfl rfl (by omega) (by omega)).mono ?_
    rintro e w3 ⟨rfl, hb⟩
    have HE3 := Lib.hid (HE2.out.on hb)
    have HB3 := Lib.hid (HB2.out.trans (hb.mono HB2.out.size))
    clear hb HE2 HB2
    generalize hD : decdB p n = D
    have HD := Lib.hid hD
    clear hD
    cases D with
    | false =>
      go_wp2
      go_ret
      exact ⟨rfl, HB3.out⟩
    | true =>
      obtain ⟨ts, hrd, hpa, hgood, _, _⟩ := wf_terms (decd_wf HD.out)
      have hwt := read_weight' p ts hrd
      have hwl := weight_len ts
      have HG : Hid (∀ t ∈ ts, goodTm t) := Lib.hid hgood
      have HRD := Lib.hid hrd
      have HQ : Hid (decdB (writeA ts.reverse) (encs (runes n).reverse) = true → mm p n = mm (writeA ts.reverse) (encs (runes n).reverse)) := Lib.hid (fun he => law_turned ⟨decd_wf HD.out, hrd⟩ HD.out rfl rfl he)
      have hwm : weight ts.reverse = weight ts := by unfold weight; rw [List.map_reverse, List.sum_reverse]
      have hql := writeA_len ts.reverse
      have HOK : Hid (∀ t ∈ ts.reverse, okNum t) := Lib.hid (fun t ht => good_ok (HG.out t (List.mem_reverse.1 ht)))
      obtain ⟨Q, hQ⟩ : ∃ Q, Q = writeA ts.reverse := ⟨_, rfl⟩
      rw [← hQ] at hql HQ
      have HQE := Lib.hid hQ.symm
      have hrl := runes_len _ n (Nat.le_refl _)
      obtain ⟨M, hM⟩ : ∃ M, M = encs (runes n).reverse := ⟨_, rfl⟩
      have hml : M.length ≤ 4 * n.length := by
        have h1 := encs_len (runes n).reverse
        rw [List.length_reverse] at h1
        rw [hM]
        omega
      rw [← hM] at HQ
      have HME := Lib.hid hM.symm
      clear hrd hpa hgood hQ hM HD
      have hfd := fld0
      go_wp2_with fail
      refine (readB _ p w3 rfl (by omega)).mono ?_
      rintro e w4 ⟨hb, va, vn, vc, rfl, hts⟩
      obtain ⟨rfl, htm⟩ := hts ts HRD.out
      have HT := Lib.hid htm
      have HE4 := Lib.hid (HE3.out.on hb)
      have HB4 := Lib.hid (HB3.out.trans (hb.mono HB3.out.size))
      generalize rdOk p = OK
      generalize rdSet p = ST
      clear hb HE3 HB3 hts htm
      have HO1 : Hid (TB w4.heap.size (w4.alloc (.cells #[] 36)) (.slice (some ⟨w4.heap.size, 0, none⟩) 0 0) [] []) := Lib.hid (TB.made w4 (Nat.le_refl _))
      have HEA := Lib.hid (HE4.out.alloc (.cells #[] 36))
      have HBA := Lib.hid (HB4.out.alloc HB4.out.size (.cells #[] 36))
      have hsz := HB4.out.size
      have HLT : Hid (∀ (j : Nat) (t : Tm), ts[j]? = some t → ∃ g o rv, va = some ⟨g, o, none⟩ ∧ g < w4.heap.size ∧ (w4.alloc (.cells #[] 36)).cell? ⟨g, o + j * 4, none⟩ = some (.int .i64 (t.kind : Nat)) ∧ (w4.alloc (.cells #[] 36)).cell? ⟨g, o + j * 4 + 1, none⟩ = some (.int .i32 (t.chr : Nat)) ∧ (w4.alloc (.cells #[] 36)).cell? ⟨g, o + j * 4 + 2, none⟩ = some (.bool t.neg) ∧ (w4.alloc (.cells #[] 36)).cell? ⟨g, o + j * 4 + 3, none⟩ = some rv ∧ RgRd 0 (w4.alloc (.cells #[] 36)) rv t.rs ∧ (t.rs ≠ [] → ∀ k, rv.ownBlock = some k → k < w4.heap.size)) := Lib.hid (fun j t hj => by
        have hbA : Below w4.heap.size w4 (w4.alloc (.cells #[] 36)) := (Below.refl _ _).alloc (Nat.le_refl _) _
        obtain ⟨a', cap', e', _, hcells⟩ := HT.out
        obtain ⟨g, o, rv, rfl, hlo, hlt, d1, d2, d3, d4, hrg⟩ := hcells j t hj
        injection e' with e1 e2 e3
        subst e1
        have key : ∀ k v, w4.cell? ⟨g, k, none⟩ = some v → (w4.alloc (.cells #[] 36)).cell? ⟨g, k, none⟩ = some v := fun k v h => (hbA.cell (p := ⟨g, k, none⟩) hlt).trans h
        exact ⟨g, o, rv, rfl, hlt, key _ _ d1, key _ _ d2, key _ _ d3, key _ _ d4, (hrg.below hbA).low (Nat.zero_le _), fun hne k hk => (hrg.lt hne k hk).2⟩)
      clear HT
      obtain ⟨i0, hi, hz0, hz1, hz2⟩ := info_parts infoT
      go_wp2
      go_loopw [6, 7] (fun o i wr => ∃ (k : Nat) (xs : List TV) (z : Int), i = .int .i64 z ∧ z + 1 = (k : Int) ∧ k ≤ ts.length ∧ TB w4.heap.size wr o xs (ts.drop k).reverse ∧ (∀ j, o.ownBlock = some j → w4.heap.size ≤ j) ∧ Below w4.heap.size (w4.alloc (.cells #[] 36)) wr) (fun _ i _ => ((intOf i) + 1).toNat)
      case atStart => exact ⟨ts.length, [], _, rfl, by omega, Nat.le_refl _, by rw [List.drop_length]; exact HO1.out, fun j e => Nat.le_of_eq (Option.some.inj (show some _ = some j from e)), Below.refl _ _⟩
      case round =>
        clear HO1
        obtain ⟨k, xs, z, rfl, hz, hk, hO, hW, hb⟩ := hrel
        have HO := Lib.hid hO
        have HW := Lib.hid hW
        have HBL := Lib.hid hb
        have hg5 : w4.heap.size + 1 ≤ wr.heap.size := by have := hb.size; simpa using this
        clear hO hW hb
        by_cases hz0' : 0 ≤ z
        · obtain ⟨j, rfl⟩ := Int.eq_ofNat_of_zero_le hz0'
          obtain rfl : k = j + 1 := by omega
          clear hz hz0'
          obtain ⟨t, htk⟩ : ∃ t, ts[j]? = some t := ⟨_, List.getElem?_eq_getElem (by omega)⟩
          obtain ⟨g, o, rv, rfl, hlt, d1, d2, d3, d4, hrg5, hrl5⟩ := HLT.out j t htk
          have key : ∀ k v, (w4.alloc (.cells #[] 36)).cell? ⟨g, k, none⟩ = some v → wr.cell? ⟨g, k, none⟩ = some v := fun k v h => (HBL.out.cell (p := ⟨g, k, none⟩) hlt).trans h
          have c1 := key _ _ d1
          have c2 := key _ _ d2
          have c3 := key _ _ d3
          have c4 := key _ _ d4
          clear key d1 d2 d3 d4
          have hrg0 : Hid (RgRd 0 wr rv t.rs) := Lib.hid (by
            obtain ⟨a, cap, rfl, q1, q2⟩ := hrg5
            refine ⟨a, cap, rfl, q1, fun i r hr => ?_⟩
            obtain ⟨g2, o2, rfl, q3, q4, q5, q6⟩ := q2 i r hr
            have hl2 := hrl5 (by intro e; rw [e] at hr; simp at hr) g2 rfl
            exact ⟨g2, o2, rfl, q3, by omega, (HBL.out.cell (p := ⟨g2, _, none⟩) hl2).trans q5, (HBL.out.cell (p := ⟨g2, _, none⟩) hl2).trans q6⟩)
          have HDI : Hid (t.rs ≠ [] → ∀ k, rv.ownBlock = some k → u6.ownBlock ≠ some k) := Lib.hid (fun hne k hk e => by have := hrl5 hne k hk; have := HW.out k e; omega)
          have HN : Hid ((ts.drop j).reverse = (ts.drop (j + 1)).reverse ++ [t]) := Lib.hid (by
            obtain ⟨hj, rfl⟩ := List.getElem?_eq_some_iff.1 htk
            rw [List.drop_eq_getElem_cons hj, List.reverse_cons])
          have hxl : xs.length ≤ 1048576 := by have := HO.out.1; rw [List.length_reverse, List.length_drop] at this; omega
          obtain ⟨ra, rcap, rfl, _⟩ := hrg5
          obtain ⟨tk, tc, tn, trs⟩ := t
          simp only at c1 c2 c3 c4 HN HDI hrg0
          clear hrl5 htk HLT
          have HBW : Hid (Below wr.heap.size wr (wr.alloc (.cells #[.int .i64 (tk : Nat), .int .i32 (tc : Nat), .bool tn, (.slice ra trs.length rcap)] 36))) := Lib.hid ((Below.refl _ wr).alloc (Nat.le_refl _) _)
          have HOW := Lib.hid (HO.out.below HBW.out)
          have z1 : (j : Int) < (ts.length : Int) := by omega
          go_wp2_with (at_builtin; refine wpList_append_lies _ rfl _ _ 30 rfl w4.heap.size 36 i0 (.agg #[.int .i64 0, .int .i32 0, .bool false, .slice none 0 0]) 4 40 Tryd.underlying30 hi hz0 hz1 hz2 rfl (by decide) _ _ _ rfl HOW.out.2.1 ⟨wr.heap.size, 0, none⟩ 1 1 [.int .i64 (tk : Nat), .int .i32 (tc : Nat), .bool tn, (.slice ra trs.length rcap)] rfl rfl ?ct1 ?ct2 (by decide) ?ct3 ?ct4 ?ct5 _ rfl ?_)
          try case ct1 => exact four_at _ _ rfl _ _ _ _ _
          try case ct2 => first | exact ⟨rfl, rfl, rfl, rfl⟩ | (intro u hu; simp at hu; rcases hu with rfl | rfl | rfl | rfl <;> rfl)
          try case ct3 => unfold maxLen; omega
          try case ct4 => omega
          try case ct5 => first | omega | (simp; omega)
          · intro g cap wz hown' hgrow hat hlt4
            have hsw := HBW.out.size
            have HF : Hid (TB w4.heap.size wz (.slice (some ⟨g, 0, none⟩) (xs.length + 1) cap) (xs ++ [⟨_, _, _, _⟩]) (ts.drop j).reverse) := Lib.hid (by rw [HN.out]; exact HOW.out.snoc (x := ⟨_, _, _, _⟩) (t := ⟨tk, tc, tn, trs⟩) ⟨rfl, rfl, rfl, hrg0.out.below HBW.out⟩ HDI.out hown' hgrow (by first | exact hat | (rcases hat with h | h; exact .inl h; exact .inr (by rw [h]; simp))))
            have HBN : Hid (Below w4.heap.size (w4.alloc (.cells #[] 36)) wz) := Lib.hid ((HBL.out.trans (HBW.out.mono (by omega))).grown hgrow (by omega) (fun k e => HW.out k e))
            have HWN : Hid (w4.heap.size ≤ g) := Lib.hid (by rcases hat with h | h; exact HW.out g h; (have : wr.heap.size ≤ g := by (rw [h]; simp)); omega)
            clear hown' hgrow hat hlt4 HOW HO HW HN HBL
            go_wp2
            go_roundw
            case rel => exact ⟨j, _, _, rfl, by omega, by omega, HF.out, fun i e => by have e' : g = i := Option.some.inj e; have := HWN.out; omega, HBN.out⟩
            case measure => first | (simp [intOf]; done) | (simp [intOf]; omega)
        · obtain rfl : k = 0 := by omega
          obtain rfl : z = -1 := by omega
          have HR : Hid (TmsRd 0 wr u6 ts.reverse) := Lib.hid (by have := HO.out.rd; rw [List.drop_zero] at this; exact this)
          have HE5 := Lib.hid (HE4.out.from HEA.out HBL.out)
          have HB5 := Lib.hid (HBA.out.trans (HBL.out.mono hsz))
          obtain ⟨ua, uc, hu⟩ : ∃ ua uc, u6 = .slice ua ts.length uc := by
            obtain ⟨ua, uc, hu⟩ := HO.out.len
            exact ⟨ua, uc, by rw [hu]; simp⟩
          subst hu
          clear HO HW HLT HBL HEA HBA HE4 HB4
          obtain ⟨cp, W1, hcv, hra, hg1, hsz1⟩ := conv_runes wr n (by omega)
          have hb1 : Below wr.heap.size wr W1 := grown_below hg1 (Nat.le_refl _) (fun _ e => by cases e)
          have HR1 := Lib.hid (HR.out.below hb1)
          have HE6 := Lib.hid (HE5.out.on hb1)
          have HB6 := Lib.hid (HB5.out.trans (hb1.mono HB5.out.size))
          have HRA := Lib.hid hra
          generalize hcs : runes n = cs at *
          clear hcs hra hg1 hb1 HR HE5 HB5
          go_wp2
          go_loopw [9, 10] (fun mv i wx => ∃ (k : Nat) (s : ByteArray) (z : Int), mv = .string s ∧ i = .int .i64 z ∧ z + 1 = (k : Int) ∧ k ≤ cs.length ∧ s.data.toList = encs (cs.drop k).reverse ∧ W1 = wx) (fun _ i _ => ((intOf i) + 1).toNat)
          case atStart => exact ⟨cs.length, ByteArray.empty, _, rfl, rfl, by omega, Nat.le_refl _, by rw [List.drop_length]; rfl, rfl⟩
          case round =>
            obtain ⟨k, s, z, rfl, rfl, hz, hk, hs, rfl⟩ := hrel
            have HS := Lib.hid hs
            have hsl : s.size ≤ 4 * cs.length := by
              rw [ba_len, hs]
              have h1 := encs_len (cs.drop k).reverse
              rw [List.length_reverse, List.length_drop] at h1
              omega
            clear hs
            by_cases hz0' : 0 ≤ z
            · obtain ⟨j, rfl⟩ := Int.eq_ofNat_of_zero_le hz0'
              obtain rfl : k = j + 1 := by omega
              clear hz hz0'
              obtain ⟨c, hck⟩ : ∃ c, cs[j]? = some c := ⟨_, List.getElem?_eq_getElem (by omega)⟩
              obtain ⟨_, hcp, hrc⟩ := HRA.out
              obtain ⟨g2, o2, e4, hlt2, c5⟩ := hrc j c hck
              injection e4 with e4
              injection e4 with e5 e6
              subst e5 e6
              rw [Nat.zero_add] at c5
              have hz := encode_size_le (c : Int)
              have z1 : (j : Int) < (cs.length : Int) := by omega
              have HN : Hid ((s ++ Utf8.encode (c : Int) : ByteArray).data.toList = encs (cs.drop j).reverse) := Lib.hid (by
                obtain ⟨hj, rfl⟩ := List.getElem?_eq_some_iff.1 hck
                rw [List.drop_eq_getElem_cons hj, List.reverse_cons, encs_append, ba_app, HS.out, encode_enc, encs_cons, encs_nil, List.append_nil])
              clear hrc HS hck
              go_wp2
              go_roundw
              case rel => exact ⟨j, _, _, rfl, rfl, by omega, by omega, HN.out, by first | rfl | trivial⟩
              case measure => first | (simp [intOf]; done) | (simp [intOf]; omega)
            · obtain rfl : k = 0 := by omega
              obtain rfl : z = -1 := by omega
              rw [List.drop_zero] at HS
              have HSE : Hid (s.data.toList = M) := Lib.hid (by rw [HS.out, HME.out])
              clear HS HRA HME
              go_wp2_with fail
              refine (writeAll_call 0 _ ts.reverse W1 HR1.out (by omega) HOK.out).mono ?_
              rintro e w7 ⟨rfl, hb⟩
              have HE7 := Lib.hid (HE6.out.on hb)
              have HB7 := Lib.hid (HB6.out.trans (hb.mono HB6.out.size))
              clear hb HE6 HB6
              rw [HQE.out]
              clear HQE HR1 HOK
              go_wp2_with fail
              refine (decidedCB ae _ _ Q M w7 HE7.out rfl HSE.out (by omega) (by omega)).mono ?_
              rintro e w8 ⟨rfl, hb⟩
              have HE8 := Lib.hid (HE7.out.on hb)
              have HB8 := Lib.hid (HB7.out.trans (hb.mono HB7.out.size))
              clear hb HE7 HB7
              generalize hC : decdB Q M = C
              have HC := Lib.hid hC
              clear hC
              cases C with
              | false =>
                go_wp2
                go_ret
                exact ⟨rfl, HB8.out⟩
              | true =>
                have HQ2 := Lib.hid (HQ.out HC.out)
                clear HQ HC
                go_wp2_with fail
                refine (yesB ae _ _ p n w8 HE8.out rfl rfl (by omega) (by omega)).mono ?_
                rintro e w9 ⟨rfl, hb⟩
                have HE9 := Lib.hid (HE8.out.on hb)
                have HB9 := Lib.hid (HB8.out.trans (hb.mono HB8.out.size))
                clear hb HE8 HB8
                rw [HQ2.out]
                clear HQ2
                go_wp2_with fail
                refine (yesB ae _ _ Q M w9 HE9.out rfl HSE.out (by omega) (by omega)).mono ?_
                rintro e w10 ⟨rfl, hb⟩
                have HE10 := Lib.hid (HE9.out.on hb)
                have HB10 := Lib.hid (HB9.out.trans (hb.mono HB9.out.size))
                clear hb HE9 HB9
                generalize mm Q M = R
                cases R with
                | false =>
                  go_wp2
                  go_ret
                  exact ⟨rfl, HB10.out⟩
                | true =>
                  go_wp2
                  go_ret
                  exact ⟨rfl, HB10.out⟩


set_option maxRecDepth 100000 in
theorem lifted (os : Os) (started : os.Started) (H : Type) (enc : TypeId × Value → H) :
    ReturnsInHanded {} Tryd.checked os 11 .any (fun w args => (Rows.fnTurnedSpec.pre enc Tryd.prog Tryd.f11 Rows.fnTurnedRow.domain false w args ∧ laidMetH Tryd.prog Rows.fnTurnedRow.laid w) ∧ sizedMet enc Tryd.prog Tryd.f11 (OpenSpec.ofChange Rows.fnTurnedSpec) false w args) (Rows.fnTurnedSpec.post enc Tryd.prog Tryd.f11 false true false false) := by
  refine returnsInHanded_of_change_and (C := Tryd.checked) (X := fun w _ => laidMetH Tryd.prog Rows.fnTurnedRow.laid w) (fun _ _ _ hh h => h.of_heap hh) own started (by kernel_rfl) Tryd.func11
    (ChangeSpec.witness_shaped (enc := enc) (C := Tryd.checked) (os := os) (X := fun w _ => laidMetH Tryd.prog Rows.fnTurnedRow.laid w) false (World.laidAll Tryd.prog os Rows.fnTurnedRow.laid) #[.slice none 0 0] 8 (World.laidAll_os _ _ _)
      (World.shaped_of_ZipB (by kernel_rfl) (by kernel_rfl)) (by kernel_rfl) (by kernel_rfl) (by kernel_rfl)
      (by rw [MakeChecks.laidMetH_plain _ _ _ (by kernel_rfl)]; exact laidMet_laidAll _ (by kernel_rfl) (by kernel_rfl))) ?_
  intro W base args ds gs before hval0 hW hcnd hsz0 hL _
  have hval : ∀ (j : Nat) t v, Tryd.f11.params[j]? = some t → args[j]? = some v → Value.okWide Tryd.prog W .any base t v := hval0
  have hW' := hW
  obtain ⟨p, q, hA0, hV, rfl, hfz, hnd⟩ := hW
  have hA : DataW.TrodAll enc Tryd.prog W 0 (fun _ => true) true Tryd.f11.params.toList args.toList ds p := hA0
  rw [Tryd.params11] at hA hval
  obtain ⟨v0, vs0, d0, ds0, p0, q0, hargs, rfl, rfl, h0, r0⟩ := trodAll_cons hA
  obtain ⟨rfl, rfl, rfl⟩ := trodAll_nil r0
  obtain rfl : args = #[v0] := by cases args; simp_all
  obtain ⟨rfl, rfl⟩ := trodVars_none hV
  obtain ⟨a0, len0, cap0, rfl⟩ := okWide_slice Tryd.underlying22 (hval 0 22 v0 rfl rfl)
  have k0 := h0
  have lt0 : ∀ x ∈ p0, x.block < W.heap.size := by obtain ⟨m, hm⟩ := k0; exact DataW.trod_lt m _ _ _ hm
  obtain ⟨z0, w0⟩ : ∃ zs, IsRow .u8 W a0 len0 cap0 zs := by
    obtain ⟨fuel, hf⟩ := h0
    rcases open_ints Tryd.underlying22 Tryd.underlying5 (by kernel_rfl) hf with ⟨hcs, _⟩ | ⟨x, l, c, zs, hcs, _, hl, hm, hz, _, hcell, hwz⟩
    · simp [Value.cells] at hcs
      obtain ⟨rfl, rfl, rfl⟩ := hcs
      exact ⟨[], .inl ⟨rfl, rfl, rfl, rfl⟩⟩
    · simp [Value.cells] at hcs
      obtain ⟨rfl, rfl, rfl⟩ := hcs
      exact ⟨zs, .inr ⟨_, rfl, hl, hm, by simpa using hz, hcell, hwz⟩⟩
  obtain ⟨ae, hE⟩ := env_of hL
  clear hA0 hval0
  refine (walk a0 len0 cap0 z0 W w0 ae hE).mono fun e W' ⟨he, bel⟩ => ?_
  subst he
  exact ⟨_, rfl, _, _, _, [], _, [], hW', trodAll_mk1 (shut_bool Tryd.underlying4 _), (trodAll_cons_mk (Below.trod laidOut (by kernel_rfl) (of_decide_eq_true (by kernel_rfl)) k0 bel lt0) trodAll_mk0), rfl, bel.frame _, fun h => by cases h⟩

theorem over : Rows.fnTurnedRow.holds Tryd.pinned (OpenSpec.ofChange Rows.fnTurnedSpec) :=
  OpenClaim.holds_of_wide 11 Tryd.f11 rfl rfl rfl rfl rfl rfl rfl ⟨rfl, rfl, rfl, rfl, rfl⟩ rfl rfl rfl rfl rfl (by kernel_rfl) Tryd.func11 (by kernel_rfl)
    (of_decide_eq_true (by kernel_rfl)) (by unfold Func.isWrapper; first | (rw [if_pos (by decide +kernel)]; kernel_rfl) | (rw [if_neg (by decide +kernel)]; exact ⟨rfl, rfl⟩))
    (fun os started H enc _ => lifted os started H enc)

theorem proved : Rows.FnTurnedCardSaid :=
  Claim7.holds_tied_plain_at .later [] Rows.fnTurnedCard.laidKinds true Rows.fnTurnedCard.stood.harness true over (fun _ h => by cases h) (by kernel_rfl) (fun _ h => by cases h) fnTurned_row_tie rfl ⟨rfl, rfl⟩ (by kernel_rfl) rfl
    (fun f fn hf hfn => by
      obtain rfl : f = 11 := Option.some.inj ((show Tryd.prog.funcNamed Rows.fnTurnedRow.func = some 11 by kernel_rfl).symm.trans hf) |>.symm
      obtain rfl : fn = Tryd.f11 := (Option.some.inj (Tryd.func11.symm.trans hfn)).symm
      exact ⟨by kernel_rfl, fun j t ht => by
        rw [Tryd.params11] at ht
        have hm : t ∈ [22] := by simpa using Array.mem_of_getElem? ht
        have hall : ([22].all fun u => !Tryd.prog.wantsStandIn u) = true := by kernel_rfl
        exact (show Tryd.prog.wantsStandIn t = false by simpa using List.all_eq_true.1 hall t hm)⟩)
    (by kernel_rfl)
end Go.Proofs.YtpkhcndhckocnaaDoor.fnTurned


/-
  Join is Clean, and Clean of the elements with slashes between them, without the empty ones: the law returns true for every input and leaves it as it was. Conditions: none.
  The frame round the walk is the kit's own (proof-skeleton.mjs).
-/
import Derived.Test.YtlekeaganaliiaaRows
import Derived.Test.YtlekeaganaliiaaJoinS
namespace Go.Proofs.Ytlekeaganaliiaa.fnJoinClean
open Go.ChangeShapes Go.WideShapes Go.ChangeAt Go.RowKit
open Go.ChangeMaps (open_string shut_string)
set_option linter.unusedVariables false

open Go.Lib.Pa
def Rel (w2 : World) (xs : List (List UInt8)) (sm ix : Value) (wr : World) : Prop :=
  ∃ k : Nat, k ≤ xs.length ∧ ix = .int .i64 k ∧ Lists w2.heap.size wr sm ((xs.take k).filter neE) ∧ Below w2.heap.size w2 wr

set_option maxHeartbeats 1000000 in
theorem walk (a : Option Addr) (len cap : Nat) (zs : List Int) (w : World) (h : IsRow .u8 w a len cap zs) :
    Calls Try.prog 3 #[.slice a len cap] w fun e w' => e = .returned (.bool true) ∧ Below w.heap.size w w' := by
  by_cases hlen : len ≤ 1048576
  · obtain ⟨i0, hi, hz0, hz1, hz2⟩ := info_parts infoStr
    have H0 := Lib.hid h
    clear h
    go_enter Try.func3, Try.ntmps3
    go_wp2_with fail
    refine (drawJoin_any a len cap zs _ H0.out hlen).mono ?_
    rintro e w1 ⟨v, ss, rfl, hO, ht, hb⟩
    obtain ⟨xs, hL, hlx⟩ := hO.lists
    have B1 := Lib.hid hb
    have ht' : Lib.Pa.lens xs + xs.length ≤ 1048576 := by omega
    obtain ⟨g, cp, rfl, hgB, hgs, hgc, hgm, hcell⟩ := hL.shape
    have HC := Lib.hid hcell
    have HL := Lib.hid hL
    clear hb H0 hO hlx hcell hL
    unfold maxLen at hgm
    go_wp2_with fail
    refine (cleanL [] _ (by simp)).mono ?_
    rintro e w2 ⟨rfl, hb⟩
    have hgs2 : g < w2.heap.size := Nat.lt_of_lt_of_le hgs hb.size
    have HL2 := Lib.hid (HL.out.below hb (fun k hk => by simp [Value.ownBlock] at hk; omega))
    have HC2 : Hid (∀ (j : Nat) x, xs[j]? = some x → w2.cell? ⟨g, j, none⟩ = some (S x)) := Lib.hid (fun j x hj => (hb.cell (p := ⟨g, j, none⟩) hgs).trans (HC.out j x hj))
    have B2 : Hid (Below w.heap.size w w2) := Lib.hid (B1.out.trans (hb.mono B1.out.size))
    clear hb B1 HL HC
    rw [show Lib.Pa.clean [] = [46] from rfl]
    have HMK : Hid (Lists w2.heap.size (w2.alloc (.cells #[] 9)) (.slice (some ⟨w2.heap.size, 0, none⟩) 0 0) []) := Lib.hid (Lists.made w2 _ _ rfl (Nat.le_refl _) [] (by simp))
    go_wp2
    go_loopw [4, 18] (fun sm ix wr => Rel w2 xs sm ix wr) (fun _ ix _ => xs.length - (intOf ix).toNat)
    case atStart => exact ⟨0, Nat.zero_le _, rfl, HMK.out, (Below.refl _ _).alloc (Nat.le_refl _) _⟩
    case round =>
      clear HMK
      obtain ⟨k, hk, rfl, hS, hB⟩ := hrel
      have HS := Lib.hid hS
      have HB := Lib.hid hB
      have hbs := hB.size
      clear hS hB
      by_cases hlt : k < xs.length
      · obtain ⟨x, hx⟩ : ∃ x, xs[k]? = some x := ⟨xs[k], List.getElem?_eq_getElem hlt⟩
        have hcx : wr.cell? ⟨g, k, none⟩ = some (S x) := (HB.out.cell (p := ⟨g, k, none⟩) hgs2).trans (HC2.out k x hx)
        have HT := Lib.hid (take_sift hx)
        clear hx
        cases x with
        | nil =>
          have HT2 : Hid ((xs.take (k + 1)).filter neE = (xs.take k).filter neE) := Lib.hid (by rw [HT.out, if_neg (by decide), List.append_nil])
          clear HT
          go_wp2
          go_roundw
          case rel => exact ⟨k + 1, by omega, by go_num, by rw [HT2.out]; exact HS.out, HB.out⟩
          case measure => simp [intOf]; omega
        | cons c t =>
          have HT2 : Hid ((xs.take (k + 1)).filter neE = (xs.take k).filter neE ++ [c :: t]) := Lib.hid (by rw [HT.out, if_pos (by simp [neE])])
          have hlf := List.length_filter_le neE (xs.take k)
          have hlt2 := List.length_take_le k xs
          clear HT
          obtain ⟨ys, hys⟩ : ∃ ys, (xs.take k).filter neE = ys := ⟨_, rfl⟩
          rw [hys] at HS HT2 hlf
          clear hys
          go_wp2_with (at_builtin; refine wpList_append_own _ rfl _ _ 23 rfl w2.heap.size 9 i0 (.string ByteArray.empty) 1 16 Try.underlying23 hi hz0 hz1 hz2 rfl (by decide) _ _ _ rfl (HS.out.own.alloc _) ⟨wr.heap.size, 0, none⟩ 1 1 [S (c :: t)] rfl rfl ?c1 ?c2 ?c3 ?c4 ?c5 ?_)
          case c1 => exact one_cells _ _ _
          case c2 => exact all_one [c :: t]
          case c3 => unfold maxLen; omega
          case c4 => omega
          case c5 => simp; omega
          · intro v' w3 hown' hgrow hnn
            have HS3 : Hid (Lists w2.heap.size w3 v' (ys ++ [c :: t])) := Lib.hid (Lists.of hown' hnn (by simp) (by simp))
            have HB3 := Lib.hid ((HB.out.alloc HB.out.size (.cells #[S (c :: t)] 9)).grown hgrow (by simp; omega) (fun k hk => (HS.out.blk k hk).1))
            clear hown' hgrow hnn hcx HS HB
            go_wp2
            go_roundw
            case rel => exact ⟨k + 1, by omega, by go_num, by rw [HT2.out]; exact HS3.out, HB3.out⟩
            case measure => simp [intOf]; omega
      · obtain rfl : k = xs.length := by omega
        rw [List.take_length] at HS
        have HL3 := Lib.hid (HL2.out.below HB.out (fun k hk => by simp [Value.ownBlock] at hk; omega))
        have hgr : g < wr.heap.size := by omega
        have HNC := Lib.hid ((HL3.out.kept (World.grownBy_alloc wr (.cells #[] 9) none) (fun _ _ e => by cases e)).cells rfl)
        obtain ⟨ys, hys⟩ : ∃ ys, xs.filter neE = ys := ⟨_, rfl⟩
        have hj := join_sift xs
        have hll := join_length_le xs
        have hyl : lens ys + ys.length ≤ lens xs + xs.length := by rw [← hys]; have h1 := lens_filter neE xs; have h2 := List.length_filter_le neE xs; omega
        have hJl := J_len ys
        rw [hys] at HS hj
        have HJ := Lib.hid hj
        clear hys hj
        obtain ⟨A, hA⟩ : ∃ A, A = join xs := ⟨_, rfl⟩
        rw [← hA] at HJ hll
        have HA := Lib.hid hA.symm
        clear hA
        obtain ⟨ya, yc, hyv⟩ : ∃ a c, u4 = .slice a ys.length c := by
          obtain ⟨g', c', e, _⟩ := HS.out.shape
          exact ⟨_, _, e⟩
        subst hyv
        go_wp2_with (at_builtin; refine wpList_append_own _ rfl _ _ 23 rfl wr.heap.size 9 i0 (.string ByteArray.empty) 1 16 Try.underlying23 hi hz0 hz1 hz2 rfl (by decide) _ 0 [] rfl (World.ownsRow_made wr #[] 0 (Nat.le_refl _) (by unfold maxLen; omega) rfl) ⟨g, 0, none⟩ xs.length cp (xs.map fun l => S l) rfl ?d1 ?d2 ?d3 ?d4 ?d5 ?d6 ?_)
        case d1 => simp
        case d2 => exact HNC.out
        case d3 => exact all_one xs
        case d4 => unfold maxLen; omega
        case d5 => omega
        case d6 => simp
        · intro v' w4 hown' hgrow hnn
          have HN : Hid (¬v' = .slice none 0 0) := hnn
          have HL4 : Hid (Lists wr.heap.size w4 v' xs) := Lists.of hown' HN.out (by simp) (by simp)
          have hW2 : wr.heap.size ≤ w4.heap.size := by have := hgrow.size; simp at this; omega
          have hne : ∀ k, (Value.slice (some ⟨wr.heap.size, 0, none⟩) 0 0).ownBlock = some k → wr.heap.size ≤ k := fun k hk => by simp [Value.ownBlock] at hk; omega
          have HB4 := Lib.hid ((HB.out.alloc HB.out.size (.cells #[] 9)).grown hgrow (by simp; omega) (fun k hk => by have := hne k hk; omega))
          have HS4 := Lib.hid ((HS.out.kept (World.grownBy_alloc wr (.cells #[] 9) none) (fun _ _ e => by cases e)).kept hgrow (fun k hk e => by have h1 := (HS.out.blk k hk).2; have h2 := hne k e; omega))
          clear hown' hgrow hnn HN HNC HL2 HL3 HS HB HC2
          go_wp2_with fail
          refine (joinOwn _ _ xs _ HL4.out (by omega)).mono ?_
          rintro e w5 ⟨rfl, hb⟩
          rw [HA.out]
          have HB5 : Hid (Below w2.heap.size w2 w5) := Lib.hid (HB4.out.trans (hb.mono HB4.out.size))
          have HS5 := Lib.hid (HS4.out.below hb (fun k hk => (HS4.out.blk k hk).2))
          clear hb HS4 HB4 HL4 HA
          by_cases hy : ys = []
          · subst hy
            have HA0 : Hid (A = []) := Lib.hid (by rw [HJ.out, if_pos rfl])
            have hA0 := HA0.out
            subst hA0
            clear HJ HS5
            have HBZ : Hid (Below w.heap.size w w5) := Lib.hid (B2.out.trans (HB5.out.mono B2.out.size))
            go_wp2
            go_ret
            exact ⟨rfl, HBZ.out⟩
          · have HA1 : Hid (clean (J ys) = A) := Lib.hid (by rw [HJ.out, if_neg hy])
            have HA2 : Hid (clean A = A) := Lib.hid (by rw [← HA1.out, clean_idem])
            have hyp : 0 < ys.length := List.length_pos_iff.2 hy
            have hyi : ((ys.length : Int) == 0) = false := by simp; omega
            have hyn : ¬ ys.length = 0 := by omega
            clear HJ hy
            go_wp2_with fail
            refine (cleanL A _ (by omega)).mono ?_
            rintro e w6 ⟨rfl, hb⟩
            rw [HA2.out]
            have HB6 : Hid (Below w2.heap.size w2 w6) := Lib.hid (HB5.out.trans (hb.mono HB5.out.size))
            have HS6 := Lib.hid (HS5.out.below hb (fun k hk => (HS5.out.blk k hk).2))
            clear hb HS5 HB5 HA2
            go_wp2_with fail
            refine (joinSlash _ _ ys _ HS6.out (by omega) (by omega)).mono ?_
            rintro e w7 ⟨rfl, hb⟩
            have HB7 : Hid (Below w2.heap.size w2 w7) := Lib.hid (HB6.out.trans (hb.mono HB6.out.size))
            clear hb HS6 HB6
            go_wp2_with fail
            refine (cleanL (J ys) _ (by omega)).mono ?_
            rintro e w8 ⟨rfl, hb⟩
            rw [HA1.out]
            have HB8 : Hid (Below w.heap.size w w8) := Lib.hid (B2.out.trans ((HB7.out.trans (hb.mono HB7.out.size)).mono B2.out.size))
            clear hb HB7 HA1
            go_wp2
            go_ret
            exact ⟨rfl, HB8.out⟩
  · go_enter Try.func3, Try.ntmps3
    go_wp2
    go_ret
    exact ⟨rfl, Below.refl _ _⟩


set_option maxRecDepth 100000 in
theorem lifted (os : Os) (started : os.Started) (H : Type) (enc : TypeId × Value → H) :
    ReturnsInHanded {} Try.checked os 3 .any (Rows.fnJoinCleanSpec.pre6 enc Try.prog Try.f3 Rows.fnJoinCleanRow.domain false) (Rows.fnJoinCleanSpec.post enc Try.prog Try.f3 false true false false) := by
  refine returnsInHanded_of_change (C := Try.checked) own started (by kernel_rfl) Try.func3
    (ChangeSpec.witness6 (enc := enc) (C := Try.checked) false ⟨#[], #[.slice none 0 0], []⟩ 8 (by kernel_rfl) (by kernel_rfl) (by kernel_rfl) (by kernel_rfl)) ?_
  intro W base args ds gs before hval0 hW hcnd _
  have hval : ∀ (j : Nat) t v, Try.f3.params[j]? = some t → args[j]? = some v → Value.okWide Try.prog W .any base t v := hval0
  have hW' := hW
  obtain ⟨p, q, hA0, hV, rfl, hfz, hnd⟩ := hW
  have hA : DataW.TrodAll enc Try.prog W 0 (fun _ => true) true Try.f3.params.toList args.toList ds p := hA0
  rw [Try.params3] at hA hval
  obtain ⟨v0, vs0, d0, ds0, p0, q0, hargs, rfl, rfl, h0, r0⟩ := trodAll_cons hA
  obtain ⟨rfl, rfl, rfl⟩ := trodAll_nil r0
  obtain rfl : args = #[v0] := by cases args; simp_all
  obtain ⟨rfl, rfl⟩ := trodVars_none hV
  obtain ⟨a0, len0, cap0, rfl⟩ := okWide_slice Try.underlying22 (hval 0 22 v0 rfl rfl)
  have k0 := h0
  have lt0 : ∀ x ∈ p0, x.block < W.heap.size := by obtain ⟨m, hm⟩ := k0; exact DataW.trod_lt m _ _ _ hm
  obtain ⟨z0, w0⟩ : ∃ zs, IsRow .u8 W a0 len0 cap0 zs := by
    obtain ⟨fuel, hf⟩ := h0
    rcases open_ints Try.underlying22 Try.underlying5 (by kernel_rfl) hf with ⟨hcs, _⟩ | ⟨x, l, c, zs, hcs, _, hl, hm, hz, _, hcell, hwz⟩
    · simp [Value.cells] at hcs
      obtain ⟨rfl, rfl, rfl⟩ := hcs
      exact ⟨[], .inl ⟨rfl, rfl, rfl, rfl⟩⟩
    · simp [Value.cells] at hcs
      obtain ⟨rfl, rfl, rfl⟩ := hcs
      exact ⟨zs, .inr ⟨_, rfl, hl, hm, by simpa using hz, hcell, hwz⟩⟩
  clear hA0 hval0
  refine (walk a0 len0 cap0 z0 W w0).mono fun e W' ⟨he, bel⟩ => ?_
  subst he
  exact ⟨_, rfl, _, _, _, [], _, [], hW', trodAll_mk1 (shut_bool Try.underlying4 _), (trodAll_cons_mk (Below.trod laidOut (by kernel_rfl) (of_decide_eq_true (by kernel_rfl)) k0 bel lt0) trodAll_mk0), rfl, bel.frame _, fun h => by cases h⟩

theorem over : Rows.fnJoinCleanRow.holds Try.pinned (OpenSpec.ofChange Rows.fnJoinCleanSpec) :=
  OpenClaim.holds_of_wide 3 Try.f3 rfl rfl rfl rfl rfl rfl rfl ⟨rfl, rfl, rfl, rfl, rfl⟩ rfl rfl rfl rfl rfl (by kernel_rfl) Try.func3 (by kernel_rfl)
    (of_decide_eq_true (by kernel_rfl)) (by unfold Func.isWrapper; first | (rw [if_pos (by decide +kernel)]; kernel_rfl) | (rw [if_neg (by decide +kernel)]; exact ⟨rfl, rfl⟩))
    (fun os started H enc _ => lifted os started H enc)

theorem proved : Rows.FnJoinCleanSaid := over
end Go.Proofs.Ytlekeaganaliiaa.fnJoinClean


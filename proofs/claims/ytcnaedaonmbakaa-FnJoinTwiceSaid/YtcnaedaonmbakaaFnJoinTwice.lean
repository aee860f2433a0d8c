/-
  Elements can be joined one after the other, Join of Join of the first ones and of the others is Join of all: the law returns true for every input and leaves it as it was. Conditions: none.
  The frame round the walk is the kit's own (proof-skeleton.mjs).
-/
import Derived.Test.YtcnaedaonmbakaaRows
import Derived.Test.YtcnaedaonmbakaaJoinC
namespace Go.Proofs.Ytcnaedaonmbakaa.fnJoinTwice
open Go.ChangeShapes Go.WideShapes Go.ChangeAt Go.RowKit
open Go.ChangeMaps (open_string shut_string)
set_option linter.unusedVariables false

open Go.Lib.Pa
theorem lens_app (a b : List (List UInt8)) : Lib.Pa.lens (a ++ b) = Lib.Pa.lens a + Lib.Pa.lens b := by simp [Lib.Pa.lens]
theorem lens_drop (xs : List (List UInt8)) (k : Nat) : Lib.Pa.lens (xs.take k) + Lib.Pa.lens (xs.drop k) = Lib.Pa.lens xs := by rw [← lens_app, List.take_append_drop]
def Rel (w1 : World) (n : Nat) (ix : Value) (wr : World) : Prop := ∃ k : Nat, k ≤ n + 1 ∧ ix = .int .i64 k ∧ Below w1.heap.size w1 wr

set_option maxHeartbeats 1000000 in
theorem walk (a : Option Addr) (len cap : Nat) (zs : List Int) (w : World) (h : IsRow .u8 w a len cap zs) :
    Calls Try.prog 8 #[.slice a len cap] w fun e w' => e = .returned (.bool true) ∧ Below w.heap.size w w' := by
  by_cases hlen : len ≤ 1048576
  · obtain ⟨i0, hi, hz0, hz1, hz2⟩ := info_parts infoStr
    have H0 := Lib.hid h
    clear h
    go_enter Try.func8, Try.ntmps8
    go_wp2_with fail
    refine (drawJoin_any a len cap zs _ H0.out hlen).mono ?_
    rintro e w0 ⟨v, ss, rfl, hO, ht, hb⟩
    obtain ⟨xs, hL, hlx⟩ := hO.lists
    have B0 := Lib.hid hb
    have ht' : Lib.Pa.lens xs + xs.length ≤ 1048576 := by omega
    obtain ⟨g, cp, rfl, hgB, hgs, hgc, hgm, hcell⟩ := hL.shape
    have HL0 := Lib.hid hL
    clear hb H0 hO hlx hcell hL
    unfold maxLen at hgm
    go_wp2_with fail
    refine (cleanL [] _ (by simp)).mono ?_
    rintro e w1 ⟨rfl, hb⟩
    have B1 : Hid (Below w.heap.size w w1) := B0.out.trans (hb.mono B0.out.size)
    have HL := Lib.hid (HL0.out.below hb (fun k hk => by simp [Value.ownBlock] at hk; omega))
    have hg1 : g < w1.heap.size := by have := hb.size; omega
    clear hb B0 HL0 hgs
    rw [show Lib.Pa.clean [] = [46] from rfl]
    have HNC := Lib.hid ((HL.out.kept (World.grownBy_alloc w1 (.cells #[] 9) none) (fun _ _ e => by cases e)).cells rfl)
    go_wp2_with (at_builtin; refine wpList_append_own _ rfl _ _ 27 rfl w1.heap.size 9 i0 (.string ByteArray.empty) 1 16 Try.underlying27 hi hz0 hz1 hz2 rfl (by decide) _ 0 [] rfl (World.ownsRow_made w1 #[] 0 (Nat.le_refl _) (by unfold maxLen; omega) rfl) ⟨g, 0, none⟩ xs.length cp (xs.map fun l => S l) rfl ?d1 ?d2 ?d3 ?d4 ?d5 ?d6 ?_)
    case d1 => simp
    case d2 => exact HNC.out
    case d3 => exact all_one xs
    case d4 => unfold maxLen; omega
    case d5 => omega
    case d6 => simp
    · intro v' w2 hown' hgrow hnn
      have HL3 : Hid (Lists w1.heap.size w2 v' xs) := Lists.of hown' hnn (by simp) (by simp)
      have hne : ∀ k, (Value.slice (some ⟨w1.heap.size, 0, none⟩) 0 0).ownBlock = some k → w1.heap.size ≤ k := fun k hk => by simp [Value.ownBlock] at hk; omega
      have HB2 := Lib.hid (((Below.refl _ w1).alloc (Nat.le_refl _) (.cells #[] 9)).grown hgrow (by simp) hne)
      clear hown' hgrow hnn HNC hne
      go_wp2_with fail
      refine (joinOwn _ _ xs _ HL3.out (by omega)).mono ?_
      rintro e w3 ⟨rfl, hb⟩
      have HB3 : Hid (Below w1.heap.size w1 w3) := HB2.out.trans (hb.mono HB2.out.size)
      clear hb HB2 HL3
      go_wp2
      go_loopw [5] (fun ix wr => Rel w1 xs.length ix wr) (fun ix _ => xs.length + 1 - (intOf ix).toNat)
      case atStart => exact ⟨0, Nat.zero_le _, rfl, HB3.out⟩
      case round =>
        clear HB3
        obtain ⟨k, hk, rfl, hB⟩ := hrel
        have HB := Lib.hid hB
        have hsz := hB.size
        clear hB
        have HLr := Lib.hid (HL.out.below HB.out (fun k hk => by simp [Value.ownBlock] at hk; omega))
        by_cases hle : k ≤ xs.length
        · have HNC := Lib.hid ((HLr.out.kept (World.grownBy_alloc wr (.cells #[] 9) none) (fun _ _ e => by cases e)).cells rfl)
          have htl : (xs.take k).length = k := by rw [List.length_take]; omega
          go_wp2_with (at_builtin; refine wpList_append_own _ rfl _ _ 27 rfl wr.heap.size 9 i0 (.string ByteArray.empty) 1 16 Try.underlying27 hi hz0 hz1 hz2 rfl (by decide) _ 0 [] rfl (World.ownsRow_made wr #[] 0 (Nat.le_refl _) (by unfold maxLen; omega) rfl) ⟨g, 0, none⟩ k cp ((xs.take k).map fun l => S l) rfl ?e1 ?e2 ?e3 ?e4 ?e5 ?e6 ?_)
          case e1 => simp; omega
          case e2 =>
            intro j u hj
            refine HNC.out j u ?_
            rw [List.getElem?_map] at hj ⊢
            rw [List.getElem?_take] at hj
            split at hj
            · exact hj
            · cases hj
          case e3 => exact all_one _
          case e4 => unfold maxLen; omega
          case e5 => omega
          case e6 => simp
          · intro v' w2 hown' hgrow hnn
            have HL3 : Hid (Lists wr.heap.size w2 v' (xs.take k)) := Lists.of hown' hnn (by simp; omega) (by simp)
            have hne : ∀ k, (Value.slice (some ⟨wr.heap.size, 0, none⟩) 0 0).ownBlock = some k → wr.heap.size ≤ k := fun k hk => by simp [Value.ownBlock] at hk; omega
            have HB2 := Lib.hid ((HB.out.alloc hsz (.cells #[] 9)).grown hgrow (by simp; omega) (fun k hk => by have := hne k hk; omega))
            clear hown' hgrow hnn HNC hne
            have hlk := lens_drop xs k
            go_wp2_with fail
            refine (joinOwn _ _ (xs.take k) _ HL3.out (by omega)).mono ?_
            rintro e w3 ⟨rfl, hb⟩
            have HB3 : Hid (Below w1.heap.size w1 w3) := HB2.out.trans (hb.mono HB2.out.size)
            have hsz3 := HB3.out.size
            have HL4 := Lib.hid (HL.out.below HB3.out (fun k hk => by simp [Value.ownBlock] at hk; omega))
            have hjl := join_length_le (xs.take k)
            have HJ := Lib.hid (join_join (xs.take k) (xs.drop k))
            clear hb HB2 HL3 HLr HB
            generalize Lib.Pa.join (xs.take k) = b at *
            have HNC := Lib.hid ((HL4.out.kept (World.grownBy_alloc w3 (.cells #[S b] 9) none) (fun _ _ e => by cases e)).cells rfl)
            have fin : ∀ (v' : Value) (w4 : World), w4.ownsRow w3.heap.size 9 1 v' (1 + (xs.length - k)) ([S b] ++ (xs.drop k).map fun l => S l) → (w3.alloc (.cells #[S b] 9)).grownBy w4 (Value.slice (some ⟨w3.heap.size, 0, none⟩) 1 1).ownBlock → (¬v' = .slice none 0 0) → Lists w3.heap.size w4 v' (b :: xs.drop k) ∧ Below w1.heap.size w1 w4 := by
              intro v' w4 h1 h2 h3
              refine ⟨Lists.of h1 h3 (by simp; omega) (by simp), (HB3.out.alloc hsz3 _).grown h2 (by simp; omega) (fun k hk => by simp [Value.ownBlock] at hk; omega)⟩
            have HFin := Lib.hid fin
            have HOwn : Hid ((w3.alloc (.cells #[S b] 9)).ownsRow w3.heap.size 9 1 (.slice (some ⟨w3.heap.size, 0, none⟩) 1 1) 1 [S b]) := (Lists.made w3 w3.heap.size w3.heap.size rfl (Nat.le_refl _) [b] (by simp)).own
            clear fin HL4
            by_cases hkc : k = cp
            · obtain rfl : k = cp := hkc
              obtain rfl : k = xs.length := by omega
              go_wp2_with (at_builtin; refine wpList_append_own _ rfl _ _ 27 rfl w3.heap.size 9 i0 (.string ByteArray.empty) 1 16 Try.underlying27 hi hz0 hz1 hz2 rfl (by decide) _ 1 [S b] rfl HOwn.out _ _ _ ((xs.drop xs.length).map fun l => S l) rfl ?f1 ?f2 ?f3 ?f4 ?f5 ?f6 ?_)
              case f1 => simp
              case f2 => intro j u hj; simp at hj
              case f3 => exact all_one _
              case f4 => unfold maxLen; omega
              case f5 => omega
              case f6 => simp
              · intro v'' w4 hown' hgrow hnn
                have h2 := HFin.out v'' w4 (by rw [List.drop_length, Nat.sub_self]; exact hown') hgrow hnn
                have HL5 := Lib.hid h2.1
                have HB5 := Lib.hid h2.2
                clear hown' hgrow hnn h2 HFin HOwn HNC
                go_wp2_with fail
                refine (joinOwn _ _ (b :: xs.drop xs.length) _ HL5.out (by simp [Lib.Pa.lens] at hjl hlk ht' ⊢; omega)).mono ?_
                rintro e w5 ⟨rfl, hb⟩
                have HB6 : Hid (Below w1.heap.size w1 w5) := HB5.out.trans (hb.mono HB5.out.size)
                clear hb HB5 HL5
                rw [HJ.out, List.take_append_drop]
                go_wp2
                go_roundw
                case rel => exact ⟨xs.length + 1, by omega, by go_num, HB6.out⟩
                case measure => simp [intOf]
            · have hkl : k ≤ cp := by omega
              go_wp2_with (at_builtin; refine wpList_append_own _ rfl _ _ 27 rfl w3.heap.size 9 i0 (.string ByteArray.empty) 1 16 Try.underlying27 hi hz0 hz1 hz2 rfl (by decide) _ 1 [S b] rfl HOwn.out _ _ _ ((xs.drop k).map fun l => S l) rfl ?g1 ?g2 ?g3 ?g4 ?g5 ?g6 ?_)
              case g1 => simp
              case g2 =>
                intro j u hj
                have := HNC.out (k + j) u (by rw [List.getElem?_map, List.getElem?_drop] at hj; rw [List.getElem?_map]; exact hj)
                have e1 : (⟨g, 0, none⟩ : Addr).add (k + j) = (⟨g, k, none⟩ : Addr).add j := by unfold Addr.add; split <;> split <;> simp_all
                rw [← e1]
                exact this
              case g3 => exact all_one _
              case g4 => unfold maxLen; omega
              case g5 => omega
              case g6 => simp
              · intro v'' w4 hown' hgrow hnn
                have h2 := HFin.out v'' w4 (by simpa using hown') hgrow hnn
                have HL5 := Lib.hid h2.1
                have HB5 := Lib.hid h2.2
                clear hown' hgrow hnn h2 HFin HOwn HNC
                go_wp2_with fail
                refine (joinOwn _ _ (b :: xs.drop k) _ HL5.out (by simp [Lib.Pa.lens] at hjl hlk ht' ⊢; omega)).mono ?_
                rintro e w5 ⟨rfl, hb⟩
                have HB6 : Hid (Below w1.heap.size w1 w5) := HB5.out.trans (hb.mono HB5.out.size)
                clear hb HB5 HL5
                rw [HJ.out, List.take_append_drop]
                go_wp2
                go_roundw
                case rel => exact ⟨k + 1, by omega, by go_num, HB6.out⟩
                case measure => simp [intOf]; omega
        · go_wp2
          go_ret
          exact ⟨rfl, B1.out.trans (HB.out.mono B1.out.size)⟩
  · go_enter Try.func8, Try.ntmps8
    go_wp2
    go_ret
    exact ⟨rfl, Below.refl _ _⟩


set_option maxRecDepth 100000 in
theorem lifted (os : Os) (started : os.Started) (H : Type) (enc : TypeId × Value → H) :
    ReturnsInHanded {} Try.checked os 8 .any (Rows.fnJoinTwiceSpec.pre6 enc Try.prog Try.f8 Rows.fnJoinTwiceRow.domain false) (Rows.fnJoinTwiceSpec.post enc Try.prog Try.f8 false true false false) := by
  refine returnsInHanded_of_change (C := Try.checked) own started (by kernel_rfl) Try.func8
    (ChangeSpec.witness6 (enc := enc) (C := Try.checked) false ⟨#[], #[.slice none 0 0], []⟩ 8 (by kernel_rfl) (by kernel_rfl) (by kernel_rfl) (by kernel_rfl)) ?_
  intro W base args ds gs before hval0 hW hcnd _
  have hval : ∀ (j : Nat) t v, Try.f8.params[j]? = some t → args[j]? = some v → Value.okWide Try.prog W .any base t v := hval0
  have hW' := hW
  obtain ⟨p, q, hA0, hV, rfl, hfz, hnd⟩ := hW
  have hA : DataW.TrodAll enc Try.prog W 0 (fun _ => true) true Try.f8.params.toList args.toList ds p := hA0
  rw [Try.params8] at hA hval
  obtain ⟨v0, vs0, d0, ds0, p0, q0, hargs, rfl, rfl, h0, r0⟩ := trodAll_cons hA
  obtain ⟨rfl, rfl, rfl⟩ := trodAll_nil r0
  obtain rfl : args = #[v0] := by cases args; simp_all
  obtain ⟨rfl, rfl⟩ := trodVars_none hV
  obtain ⟨a0, len0, cap0, rfl⟩ := okWide_slice Try.underlying26 (hval 0 26 v0 rfl rfl)
  have k0 := h0
  have lt0 : ∀ x ∈ p0, x.block < W.heap.size := by obtain ⟨m, hm⟩ := k0; exact DataW.trod_lt m _ _ _ hm
  obtain ⟨z0, w0⟩ : ∃ zs, IsRow .u8 W a0 len0 cap0 zs := by
    obtain ⟨fuel, hf⟩ := h0
    rcases open_ints Try.underlying26 Try.underlying5 (by kernel_rfl) hf with ⟨hcs, _⟩ | ⟨x, l, c, zs, hcs, _, hl, hm, hz, _, hcell, hwz⟩
    · simp [Value.cells] at hcs
      obtain ⟨rfl, rfl, rfl⟩ := hcs
      exact ⟨[], .inl ⟨rfl, rfl, rfl, rfl⟩⟩
    · simp [Value.cells] at hcs
      obtain ⟨rfl, rfl, rfl⟩ := hcs
      exact ⟨zs, .inr ⟨_, rfl, hl, hm, by simpa using hz, hcell, hwz⟩⟩
  clear hA0 hval0
  refine (walk a0 len0 cap0 z0 W w0).mono fun e W' ⟨he, bel⟩ => ?_
  subst he
  exact ⟨_, rfl, _, _, _, [], _, [], hW', trodAll_mk1 (shut_bool Try.underlying4 _), (trodAll_cons_mk (Below.trod laidOut (by kernel_rfl) (of_decide_eq_true (by kernel_rfl)) k0 bel lt0) trodAll_mk0), rfl, bel.frame _, fun h => by cases h⟩

theorem over : Rows.fnJoinTwiceRow.holds Try.pinned (OpenSpec.ofChange Rows.fnJoinTwiceSpec) :=
  OpenClaim.holds_of_wide 8 Try.f8 rfl rfl rfl rfl rfl rfl rfl ⟨rfl, rfl, rfl, rfl, rfl⟩ rfl rfl rfl rfl rfl (by kernel_rfl) Try.func8 (by kernel_rfl)
    (of_decide_eq_true (by kernel_rfl)) (by unfold Func.isWrapper; first | (rw [if_pos (by decide +kernel)]; kernel_rfl) | (rw [if_neg (by decide +kernel)]; exact ⟨rfl, rfl⟩))
    (fun os started H enc _ => lifted os started H enc)

theorem proved : Rows.FnJoinTwiceSaid := over
end Go.Proofs.Ytcnaedaonmbakaa.fnJoinTwice


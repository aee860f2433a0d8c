/-
  Empty elements change nothing, and Join is empty only if all elements are: the law returns true for every input and leaves it as it was. Conditions: none.
  The frame round the walk is the kit's own (proof-skeleton.mjs).
-/
import Derived.Test.YtcnaedaonmbakaaRows
import Derived.Test.YtcnaedaonmbakaaJoinC
namespace Go.Proofs.Ytcnaedaonmbakaa.fnJoinEmpty
open Go.ChangeShapes Go.WideShapes Go.ChangeAt Go.RowKit
open Go.ChangeMaps (open_string shut_string)
set_option linter.unusedVariables false

open Go.Lib.Pa
def mix (xs : List (List UInt8)) : List (List UInt8) := [] :: xs.flatMap fun e => [e, []]
theorem mix_snoc (xs : List (List UInt8)) (x : List UInt8) : mix (xs ++ [x]) = mix xs ++ [x, []] := by simp [mix]
theorem mix_len (xs : List (List UInt8)) : (mix xs).length = 2 * xs.length + 1 := by
  induction xs with
  | nil => rfl
  | cons x t ih => simp [mix] at ih ⊢; omega
theorem mix_lens (xs : List (List UInt8)) : Lib.Pa.lens (mix xs) = Lib.Pa.lens xs := by
  induction xs with
  | nil => rfl
  | cons x t ih => simp [mix, Lib.Pa.lens] at ih ⊢; omega
theorem mix_filter (xs : List (List UInt8)) : (mix xs).filter (· ≠ []) = xs.filter (· ≠ []) := by
  induction xs with
  | nil => rfl
  | cons x t ih =>
    simp only [mix, List.flatMap_cons] at ih ⊢
    by_cases hx : x = [] <;> simp_all
def full (xs : List (List UInt8)) : Bool := xs.any (fun x => !x.isEmpty)
theorem full_snoc (xs : List (List UInt8)) (x : List UInt8) : full (xs ++ [x]) = (full xs || !x.isEmpty) := by simp [full]
theorem join_full (xs : List (List UInt8)) : (!(Lib.Pa.join xs).isEmpty) = full xs := by
  have := join_nil_iff xs
  cases hf : full xs with
  | true =>
    obtain ⟨x, hx, hn⟩ := List.any_eq_true.1 hf
    have : Lib.Pa.join xs ≠ [] := fun e => by
      rw [this.1 e x hx] at hn
      cases hn
    cases hj : Lib.Pa.join xs with
    | nil => exact absurd hj this
    | cons a b => rfl
  | false =>
    have : Lib.Pa.join xs = [] := this.2 fun x hx => by
      have := List.any_eq_false.1 hf x hx
      cases x with
      | nil => rfl
      | cons a b => exact absurd rfl this
    rw [this]
    rfl
def Rel (w1 : World) (xs : List (List UInt8)) (sm fu ix : Value) (wr : World) : Prop :=
  ∃ k : Nat, k ≤ xs.length ∧ ix = .int .i64 k ∧ fu = .bool (full (xs.take k)) ∧ Lists w1.heap.size wr sm (mix (xs.take k)) ∧ Below w1.heap.size w1 wr

set_option maxHeartbeats 1000000 in
theorem walk (a : Option Addr) (len cap : Nat) (zs : List Int) (w : World) (h : IsRow .u8 w a len cap zs) :
    Calls Try.prog 6 #[.slice a len cap] w fun e w' => e = .returned (.bool true) ∧ Below w.heap.size w w' := by
  by_cases hlen : len ≤ 1048576
  · obtain ⟨i0, hi, hz0, hz1, hz2⟩ := info_parts infoStr
    have H0 := Lib.hid h
    clear h
    go_enter Try.func6, Try.ntmps6
    go_wp2_with fail
    refine (drawJoin_any a len cap zs _ H0.out hlen).mono ?_
    rintro e w1 ⟨v, ss, rfl, hO, ht, hb⟩
    obtain ⟨xs, hL, hlx⟩ := hO.lists
    have B1 := Lib.hid hb
    have ht' : Lib.Pa.lens xs + xs.length ≤ 1048576 := by omega
    obtain ⟨g, cp, rfl, hgB, hgs, hgc, hgm, hcell⟩ := hL.shape
    have HC := Lib.hid hcell
    have HL := Lib.hid hL
    clear hb H0 hO hlx hcell hL
    unfold maxLen at hgm
    go_wp2
    go_loopw [4, 5, 17] (fun sm fu ix wr => Rel w1 xs sm fu ix wr) (fun _ _ ix _ => xs.length - (intOf ix).toNat)
    case atStart => exact ⟨0, Nat.zero_le _, rfl, rfl, Lists.made w1 _ _ rfl (Nat.le_refl _) [[]] (by simp), (Below.refl _ _).alloc (Nat.le_refl _) _⟩
    case round =>
      obtain ⟨k, hk, rfl, rfl, hS, hB⟩ := hrel
      have HS := Lib.hid hS
      have HB := Lib.hid hB
      clear hS hB
      by_cases hlt : k < xs.length
      · obtain ⟨x, hx⟩ : ∃ x, xs[k]? = some x := ⟨xs[k], List.getElem?_eq_getElem hlt⟩
        have hcx : wr.cell? ⟨g, k, none⟩ = some (S x) := (HB.out.cell (p := ⟨g, k, none⟩) hgs).trans (HC.out k x hx)
        have htk : Hid (xs.take (k + 1) = xs.take k ++ [x]) := by apply Lib.hid; rw [List.take_add_one, hx]; rfl
        have hml : (mix (xs.take k)).length ≤ 2 * xs.length + 1 := by rw [mix_len]; have := List.length_take_le k xs; omega
        clear hx
        go_wp2_with (at_builtin; refine wpList_append_own _ rfl _ _ 27 rfl w1.heap.size 9 i0 (.string ByteArray.empty) 1 16 Try.underlying27 hi hz0 hz1 hz2 rfl (by decide) _ _ _ rfl (HS.out.own.alloc _) ⟨wr.heap.size, 0, none⟩ 2 2 [S x, S []] rfl rfl ?c1 ?c2 ?c3 ?c4 ?c5 ?_)
        case c1 =>
          intro j u hj
          have := new_cells wr 9 [x, []]
          match j, hj with
          | 0, hj => simp at hj; subst hj; exact this 0 x rfl
          | 1, hj => simp at hj; subst hj; exact this 1 [] rfl
        case c2 => exact all_one [x, []]
        case c3 => unfold maxLen; omega
        case c4 => omega
        case c5 => have := HB.out.size; simp; omega
        · intro v' w2 hown' hgrow hnn
          have HS2 : Hid (Lists w1.heap.size w2 v' (mix (xs.take (k + 1)))) := by
            apply Lib.hid
            rw [htk.out, mix_snoc]
            exact Lists.of hown' hnn (by simp) (by simp)
          have HB2 := Lib.hid ((HB.out.alloc HB.out.size (.cells #[S x, S []] 9)).grown hgrow (by have := HB.out.size; simp; omega) (fun k hk => (HS.out.blk k hk).1))
          clear hown' hgrow hnn hcx
          have HF : Hid (full (xs.take (k + 1)) = (full (xs.take k) || !x.isEmpty)) := by apply Lib.hid; rw [htk.out, full_snoc]
          generalize full (xs.take k) = b at *
          cases b with
          | true =>
            go_wp2
            go_roundw
            case rel => exact ⟨k + 1, by omega, by go_num, by rw [HF.out]; rfl, HS2.out, HB2.out⟩
            case measure => simp [intOf]; omega
          | false =>
            cases x with
            | nil =>
              go_wp2
              go_roundw
              case rel => exact ⟨k + 1, by omega, by go_num, by rw [HF.out]; rfl, HS2.out, HB2.out⟩
              case measure => simp [intOf]; omega
            | cons c t =>
              go_wp2
              go_roundw
              case rel => exact ⟨k + 1, by omega, by go_num, by rw [HF.out]; rfl, HS2.out, HB2.out⟩
              case measure => simp [intOf]; omega
      · obtain rfl : k = xs.length := by omega
        rw [List.take_length] at HS
        rw [List.take_length]
        have HL2 := Lib.hid (HL.out.below HB.out (fun k hk => by simp [Value.ownBlock] at hk; omega))
        have hgr : g < wr.heap.size := by have := HB.out.size; omega
        have HNC := Lib.hid ((HL2.out.kept (World.grownBy_alloc wr (.cells #[] 9) none) (fun _ _ e => by cases e)).cells rfl)
        go_wp2_with (at_builtin; refine wpList_append_own _ rfl _ _ 27 rfl wr.heap.size 9 i0 (.string ByteArray.empty) 1 16 Try.underlying27 hi hz0 hz1 hz2 rfl (by decide) _ 0 [] rfl (World.ownsRow_made wr #[] 0 (Nat.le_refl _) (by unfold maxLen; omega) rfl) ⟨g, 0, none⟩ xs.length cp (xs.map fun l => S l) rfl ?d1 ?d2 ?d3 ?d4 ?d5 ?d6 ?_)
        case d1 => simp
        case d2 => exact HNC.out
        case d3 => exact all_one xs
        case d4 => unfold maxLen; omega
        case d5 => omega
        case d6 => simp
        · intro v' w2 hown' hgrow hnn
          have HN : Hid (¬v' = .slice none 0 0) := hnn
          have HL3 : Hid (Lists wr.heap.size w2 v' xs) := Lists.of hown' HN.out (by simp) (by simp)
          have hW2 : wr.heap.size ≤ w2.heap.size := by have := hgrow.size; simp at this; omega
          have hne : ∀ k, (Value.slice (some ⟨wr.heap.size, 0, none⟩) 0 0).ownBlock = some k → wr.heap.size ≤ k := fun k hk => by simp [Value.ownBlock] at hk; omega
          have HB2 := Lib.hid ((HB.out.alloc HB.out.size (.cells #[] 9)).grown hgrow (by have := HB.out.size; simp; omega) (fun k hk => by have := hne k hk; have := HB.out.size; omega))
          have HS2 := Lib.hid ((HS.out.kept (World.grownBy_alloc wr (.cells #[] 9) none) (fun _ _ e => by cases e)).kept hgrow (fun k hk e => by have h1 := (HS.out.blk k hk).2; have h2 := hne k e; omega))
          clear hown' hgrow hnn HN HNC HL2 HS HB
          go_wp2_with fail
          refine (joinOwn _ _ xs _ HL3.out (by omega)).mono ?_
          rintro e w3 ⟨rfl, hb⟩
          have HB3 : Hid (Below w1.heap.size w1 w3) := HB2.out.trans (hb.mono HB2.out.size)
          have HS3 := Lib.hid (HS2.out.below hb (fun k hk => (HS2.out.blk k hk).2))
          clear hb HS2 HB2 HL3
          go_wp2_with fail
          refine (joinOwn _ _ (mix xs) _ HS3.out (by rw [mix_lens, mix_len]; omega)).mono ?_
          rintro e w4 ⟨rfl, hb⟩
          have HB4 : Hid (Below w.heap.size w w4) := B1.out.trans ((HB3.out.trans (hb.mono HB3.out.size)).mono B1.out.size)
          clear hb HS3 HB3
          rw [join_of_filter (mix xs) xs (mix_filter xs)]
          have HF := Lib.hid (join_full xs)
          generalize Lib.Pa.join xs = j at *
          generalize full xs = f at *
          cases j with
          | nil =>
            obtain rfl : false = f := HF.out
            go_wp2
            go_ret
            exact ⟨rfl, HB4.out⟩
          | cons c t =>
            obtain rfl : true = f := HF.out
            go_wp2
            go_ret
            exact ⟨rfl, HB4.out⟩
  · go_enter Try.func6, Try.ntmps6
    go_wp2
    go_ret
    exact ⟨rfl, Below.refl _ _⟩


set_option maxRecDepth 100000 in
theorem lifted (os : Os) (started : os.Started) (H : Type) (enc : TypeId × Value → H) :
    ReturnsInHanded {} Try.checked os 6 .any (Rows.fnJoinEmptySpec.pre6 enc Try.prog Try.f6 Rows.fnJoinEmptyRow.domain false) (Rows.fnJoinEmptySpec.post enc Try.prog Try.f6 false true false false) := by
  refine returnsInHanded_of_change (C := Try.checked) own started (by kernel_rfl) Try.func6
    (ChangeSpec.witness6 (enc := enc) (C := Try.checked) false ⟨#[], #[.slice none 0 0], []⟩ 8 (by kernel_rfl) (by kernel_rfl) (by kernel_rfl) (by kernel_rfl)) ?_
  intro W base args ds gs before hval0 hW hcnd _
  have hval : ∀ (j : Nat) t v, Try.f6.params[j]? = some t → args[j]? = some v → Value.okWide Try.prog W .any base t v := hval0
  have hW' := hW
  obtain ⟨p, q, hA0, hV, rfl, hfz, hnd⟩ := hW
  have hA : DataW.TrodAll enc Try.prog W 0 (fun _ => true) true Try.f6.params.toList args.toList ds p := hA0
  rw [Try.params6] at hA hval
  obtain ⟨v0, vs0, d0, ds0, p0, q0, hargs, rfl, rfl, h0, r0⟩ := trodAll_cons hA
  obtain ⟨rfl, rfl, rfl⟩ := trodAll_nil r0
  obtain rfl : args = #[v0] := by cases args; simp_all
  obtain ⟨rfl, rfl⟩ := trodVars_none hV
  obtain ⟨a0, len0, cap0, rfl⟩ := okWide_slice Try.underlying26 (hval 0 26 v0 rfl rfl)
  have k0 := h0
  have lt0 : ∀ x ∈ p0, x.block < W.heap.size := by obtain ⟨m, hm⟩ := k0; exact DataW.trod_lt m _ _ _ hm
  obtain ⟨z0, w0⟩ : ∃ zs, IsRow .u8 W a0 len0 cap0 zs := by
    obtain ⟨fuel, hf⟩ := h0
    rcases open_ints Try.underlying26 Try.underlying5 (by kernel_rfl) hf with ⟨hcs, _⟩ | ⟨x, l, c, zs, hcs, _, hl, hm, hz, _, hcell, hwz⟩
    · simp [Value.cells] at hcs
      obtain ⟨rfl, rfl, rfl⟩ := hcs
      exact ⟨[], .inl ⟨rfl, rfl, rfl, rfl⟩⟩
    · simp [Value.cells] at hcs
      obtain ⟨rfl, rfl, rfl⟩ := hcs
      exact ⟨zs, .inr ⟨_, rfl, hl, hm, by simpa using hz, hcell, hwz⟩⟩
  clear hA0 hval0
  refine (walk a0 len0 cap0 z0 W w0).mono fun e W' ⟨he, bel⟩ => ?_
  subst he
  exact ⟨_, rfl, _, _, _, [], _, [], hW', trodAll_mk1 (shut_bool Try.underlying4 _), (trodAll_cons_mk (Below.trod laidOut (by kernel_rfl) (of_decide_eq_true (by kernel_rfl)) k0 bel lt0) trodAll_mk0), rfl, bel.frame _, fun h => by cases h⟩

theorem over : Rows.fnJoinEmptyRow.holds Try.pinned (OpenSpec.ofChange Rows.fnJoinEmptySpec) :=
  OpenClaim.holds_of_wide 6 Try.f6 rfl rfl rfl rfl rfl rfl rfl ⟨rfl, rfl, rfl, rfl, rfl⟩ rfl rfl rfl rfl rfl (by kernel_rfl) Try.func6 (by kernel_rfl)
    (of_decide_eq_true (by kernel_rfl)) (by unfold Func.isWrapper; first | (rw [if_pos (by decide +kernel)]; kernel_rfl) | (rw [if_neg (by decide +kernel)]; exact ⟨rfl, rfl⟩))
    (fun os started H enc _ => lifted os started H enc)

theorem proved : Rows.FnJoinEmptySaid := over
end Go.Proofs.Ytcnaedaonmbakaa.fnJoinEmpty


/-
  Join of Dir and Base of a Clean path is the path: the law returns true for every input and leaves it as it was. Conditions: none.
  The frame round the walk is the kit's own (proof-skeleton.mjs).
-/
import Derived.Test.YtcnaedaonmbakaaRows
import Derived.Test.YtcnaedaonmbakaaPathC
import Derived.Test.YtcnaedaonmbakaaPathT
import Derived.Test.YtcnaedaonmbakaaDrawC
namespace Go.Proofs.Ytcnaedaonmbakaa.fnCleanParts
open Go.ChangeShapes Go.WideShapes Go.ChangeAt Go.RowKit
open Go.ChangeMaps (open_string shut_string)
set_option linter.unusedVariables false

open Go.Lib.Pa in
theorem walk (a : Option Addr) (len cap : Nat) (zs : List Int) (w : World) (h : IsRow .u8 w a len cap zs) :
    Calls Try.prog 13 #[.slice a len cap] w fun e w' => e = .returned (.bool true) ∧ Below w.heap.size w w' := by
  by_cases hlen : len ≤ 1048576
  · have H0 := Lib.hid h
    clear h
    go_enter Try.func13, Try.ntmps13
    go_wp2_with fail
    refine (drawClean_any a len cap zs _ H0.out hlen).mono ?_
    rintro e w1 ⟨l, rfl, hl, hb⟩
    have B1 := Lib.hid hb
    clear hb H0
    have c0 := clean_length_le_succ l
    go_wp2_with fail
    refine (cleanL [] _ (by simp)).mono ?_
    rintro e w2 ⟨rfl, hb⟩
    have B2 : Hid (Below w.heap.size w w2) := B1.out.trans (hb.mono B1.out.size)
    clear hb B1
    rw [show Lib.Pa.clean [] = [46] from rfl]
    go_wp2_with fail
    refine (cleanL l _ (by omega)).mono ?_
    rintro e w3 ⟨rfl, hb⟩
    have B3 : Hid (Below w.heap.size w w3) := B2.out.trans (hb.mono B2.out.size)
    clear hb B2
    have HP := Lib.hid (clean_parts l)
    generalize Lib.Pa.clean l = c at *
    have hd : (Lib.Pa.dir c).length ≤ c.length + 1 := by
      have h1 := clean_length_le_succ (Lib.Pa.split c).1
      have h2 := split_fst_le c
      show (Lib.Pa.clean (Lib.Pa.split c).1).length ≤ _
      omega
    have hbs : (Lib.Pa.base c).length ≤ c.length + 1 := base_length c
    go_wp2_with fail
    refine (dirL c _ (by omega)).mono ?_
    rintro e w4 ⟨rfl, hb⟩
    have B4 : Hid (Below w.heap.size w w4) := B3.out.trans (hb.mono B3.out.size)
    clear hb B3
    go_wp2_with fail
    refine (baseL c _ (by omega)).mono ?_
    rintro e w' ⟨rfl, rfl⟩
    generalize Lib.Pa.dir c = d at *
    generalize Lib.Pa.base c = b at *
    go_wp2_with fail
    refine (implJoin w4.heap.size 0 2 2 [d, b] _ rfl (new_cells w4 _ [d, b]) (by simp) (by simp [Lib.Pa.lens]; omega)).mono ?_
    rintro e w5 ⟨rfl, hb⟩
    have B5 : Hid (Below w.heap.size w w5) := (B4.out.alloc B4.out.size _).trans (hb.mono (by have := B4.out.size; simp; omega))
    clear hb B4
    rw [HP.out]
    go_wp2
    go_ret
    exact ⟨rfl, B5.out⟩
  · go_enter Try.func13, Try.ntmps13
    go_wp2
    go_ret
    exact ⟨rfl, Below.refl _ _⟩


set_option maxRecDepth 100000 in
theorem lifted (os : Os) (started : os.Started) (H : Type) (enc : TypeId × Value → H) :
    ReturnsInHanded {} Try.checked os 13 .any (Rows.fnCleanPartsSpec.pre6 enc Try.prog Try.f13 Rows.fnCleanPartsRow.domain false) (Rows.fnCleanPartsSpec.post enc Try.prog Try.f13 false true false false) := by
  refine returnsInHanded_of_change (C := Try.checked) own started (by kernel_rfl) Try.func13
    (ChangeSpec.witness6 (enc := enc) (C := Try.checked) false ⟨#[], #[.slice none 0 0], []⟩ 8 (by kernel_rfl) (by kernel_rfl) (by kernel_rfl) (by kernel_rfl)) ?_
  intro W base args ds gs before hval0 hW hcnd _
  have hval : ∀ (j : Nat) t v, Try.f13.params[j]? = some t → args[j]? = some v → Value.okWide Try.prog W .any base t v := hval0
  have hW' := hW
  obtain ⟨p, q, hA0, hV, rfl, hfz, hnd⟩ := hW
  have hA : DataW.TrodAll enc Try.prog W 0 (fun _ => true) true Try.f13.params.toList args.toList ds p := hA0
  rw [Try.params13] at hA hval
  obtain ⟨v0, vs0, d0, ds0, p0, q0, hargs, rfl, rfl, h0, r0⟩ := trodAll_cons hA
  obtain ⟨rfl, rfl, rfl⟩ := trodAll_nil r0
  obtain rfl : args = #[v0] := by cases args; simp_all
  obtain ⟨rfl, rfl⟩ := trodVars_none hV
  obtain ⟨a0, len0, cap0, rfl⟩ := okWide_slice Try.underlying26 (hval 0 26 v0 rfl rfl)
  have k0 := h0
  have lt0 : ∀ x ∈ p0, x.block < W.heap.size := by obtain ⟨m, hm⟩ := k0; exact DataW.trod_lt m _ _ _ hm
  obtain ⟨z0, w0⟩ : ∃ zs, IsRow .u8 W a0 len0 cap0 zs := by
    obtain ⟨fuel, hf⟩ := h0
    rcases open_ints Try.underlying26 Try.underlying5 (by kernel_rfl) hf with ⟨hcs, _⟩ | ⟨x, l, c, zs, hcs, _, hl, hm, hz, _, hcell, hwz⟩
    · simp [Value.cells] at hcs
      obtain ⟨rfl, rfl, rfl⟩ := hcs
      exact ⟨[], .inl ⟨rfl, rfl, rfl, rfl⟩⟩
    · simp [Value.cells] at hcs
      obtain ⟨rfl, rfl, rfl⟩ := hcs
      exact ⟨zs, .inr ⟨_, rfl, hl, hm, by simpa using hz, hcell, hwz⟩⟩
  clear hA0 hval0
  refine (walk a0 len0 cap0 z0 W w0).mono fun e W' ⟨he, bel⟩ => ?_
  subst he
  exact ⟨_, rfl, _, _, _, [], _, [], hW', trodAll_mk1 (shut_bool Try.underlying4 _), (trodAll_cons_mk (Below.trod laidOut (by kernel_rfl) (of_decide_eq_true (by kernel_rfl)) k0 bel lt0) trodAll_mk0), rfl, bel.frame _, fun h => by cases h⟩

theorem over : Rows.fnCleanPartsRow.holds Try.pinned (OpenSpec.ofChange Rows.fnCleanPartsSpec) :=
  OpenClaim.holds_of_wide 13 Try.f13 rfl rfl rfl rfl rfl rfl rfl ⟨rfl, rfl, rfl, rfl, rfl⟩ rfl rfl rfl rfl rfl (by kernel_rfl) Try.func13 (by kernel_rfl)
    (of_decide_eq_true (by kernel_rfl)) (by unfold Func.isWrapper; first | (rw [if_pos (by decide +kernel)]; kernel_rfl) | (rw [if_neg (by decide +kernel)]; exact ⟨rfl, rfl⟩))
    (fun os started H enc _ => lifted os started H enc)

theorem proved : Rows.FnCleanPartsSaid := over
end Go.Proofs.Ytcnaedaonmbakaa.fnCleanParts


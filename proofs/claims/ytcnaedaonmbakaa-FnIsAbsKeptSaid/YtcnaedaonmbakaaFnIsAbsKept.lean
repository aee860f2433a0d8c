/-
  Clean and Join with anything behind keep whether a path is absolute, and Dir of a path with an element behind it is absolute exactly if the path is: the law returns true for every input and leaves it as it was. Conditions: none.
  The frame round the walk is the kit's own (proof-skeleton.mjs).
-/
import Derived.Test.YtcnaedaonmbakaaRows
import Derived.Test.YtcnaedaonmbakaaPathC
import Derived.Test.YtcnaedaonmbakaaPathT
import Derived.Test.YtcnaedaonmbakaaDrawC
namespace Go.Proofs.Ytcnaedaonmbakaa.fnIsAbsKept
open Go.ChangeShapes Go.WideShapes Go.ChangeAt Go.RowKit
open Go.ChangeMaps (open_string shut_string)
set_option linter.unusedVariables false

open Go.Lib.Pa in
theorem walk (a : Option Addr) (len cap : Nat) (zs : List Int) (w : World) (h : IsRow .u8 w a len cap zs) :
    Calls Try.prog 12 #[.slice a len cap] w fun e w' => e = .returned (.bool true) ∧ Below w.heap.size w w' := by
  by_cases hlen : len ≤ 1048576
  · have H0 := Lib.hid h
    clear h
    go_enter Try.func12, Try.ntmps12
    go_wp2_with fail
    refine (drawIsAbs_any a len cap zs _ H0.out hlen).mono ?_
    rintro e w1 ⟨l, rfl, hl, hb⟩
    have B1 := Lib.hid hb
    clear hb H0
    have c0 := clean_length_le_succ l
    go_wp2_with fail
    refine (isAbsL [47] _).mono ?_
    rintro e w' ⟨rfl, rfl⟩
    rw [show Lib.Pa.isAbs [47] = true from rfl]
    go_wp2_with fail
    refine (isAbsL l _).mono ?_
    rintro e w' ⟨rfl, rfl⟩
    rw [isAbs_ro]
    go_wp2_with fail
    refine (cleanL l _ (by omega)).mono ?_
    rintro e w2 ⟨rfl, hb⟩
    have B2 : Hid (Below w.heap.size w w2) := B1.out.trans (hb.mono B1.out.size)
    clear hb B1
    go_wp2_with fail
    refine (isAbsL (Lib.Pa.clean l) _).mono ?_
    rintro e w' ⟨rfl, rfl⟩
    rw [isAbs_ro, clean_ro]
    by_cases hn : l = []
    · subst hn
      go_wp2
      go_ret
      exact ⟨rfl, B2.out⟩
    · have hE : l.isEmpty = false := by cases l with | nil => exact absurd rfl hn | cons c t => rfl
      have HJ : Hid (ro (Lib.Pa.join [l, [120]]) = ro l) := by
        apply Lib.hid
        rw [join_two l [120] hn (by simp), clean_ro, ro_app l _ hn]
      have HD : Hid (ro (Lib.Pa.dir (l ++ [47, 120])) = ro l) := by
        apply Lib.hid
        rw [dir_slash l [120] (by decide), clean_ro, ro_app l _ hn]
      go_wp2_with fail
      refine (implJoin w2.heap.size 0 2 2 [l, [120]] _ rfl (new_cells w2 _ [l, [120]]) (by simp) (by simp [Lib.Pa.lens]; omega)).mono ?_
      rintro e w3 ⟨rfl, hb⟩
      have B3 : Hid (Below w.heap.size w w3) := (B2.out.alloc B2.out.size _).trans (hb.mono (by have := B2.out.size; simp; omega))
      clear hb B2
      go_wp2_with fail
      refine (isAbsL (Lib.Pa.join [l, [120]]) _).mono ?_
      rintro e w' ⟨rfl, rfl⟩
      rw [isAbs_ro, HJ.out]
      have HA : Hid ((⟨l.toArray⟩ : ByteArray) ++ ⟨#[47, 120]⟩ = ⟨(l ++ [47, 120]).toArray⟩) := by
        apply Lib.hid
        apply ByteArray.ext
        simp [ByteArray.data_append]
      have hsz : (⟨l.toArray⟩ : ByteArray).size ≤ 1048576 := hl
      go_wp2_with fail
      first | rw [HA.out] | skip
      refine (dirL (l ++ [47, 120]) _ (by simp; omega)).mono ?_
      rintro e w4 ⟨rfl, hb⟩
      have B4 : Hid (Below w.heap.size w w4) := B3.out.trans (hb.mono B3.out.size)
      clear hb B3
      go_wp2_with fail
      refine (isAbsL (Lib.Pa.dir (l ++ [47, 120])) _).mono ?_
      rintro e w' ⟨rfl, rfl⟩
      rw [isAbs_ro, HD.out]
      generalize ro l = r
      go_wp2
      go_ret
      exact ⟨rfl, B4.out⟩
  · go_enter Try.func12, Try.ntmps12
    go_wp2
    go_ret
    exact ⟨rfl, Below.refl _ _⟩


set_option maxRecDepth 100000 in
theorem lifted (os : Os) (started : os.Started) (H : Type) (enc : TypeId × Value → H) :
    ReturnsInHanded {} Try.checked os 12 .any (Rows.fnIsAbsKeptSpec.pre6 enc Try.prog Try.f12 Rows.fnIsAbsKeptRow.domain false) (Rows.fnIsAbsKeptSpec.post enc Try.prog Try.f12 false true false false) := by
  refine returnsInHanded_of_change (C := Try.checked) own started (by kernel_rfl) Try.func12
    (ChangeSpec.witness6 (enc := enc) (C := Try.checked) false ⟨#[], #[.slice none 0 0], []⟩ 8 (by kernel_rfl) (by kernel_rfl) (by kernel_rfl) (by kernel_rfl)) ?_
  intro W base args ds gs before hval0 hW hcnd _
  have hval : ∀ (j : Nat) t v, Try.f12.params[j]? = some t → args[j]? = some v → Value.okWide Try.prog W .any base t v := hval0
  have hW' := hW
  obtain ⟨p, q, hA0, hV, rfl, hfz, hnd⟩ := hW
  have hA : DataW.TrodAll enc Try.prog W 0 (fun _ => true) true Try.f12.params.toList args.toList ds p := hA0
  rw [Try.params12] at hA hval
  obtain ⟨v0, vs0, d0, ds0, p0, q0, hargs, rfl, rfl, h0, r0⟩ := trodAll_cons hA
  obtain ⟨rfl, rfl, rfl⟩ := trodAll_nil r0
  obtain rfl : args = #[v0] := by cases args; simp_all
  obtain ⟨rfl, rfl⟩ := trodVars_none hV
  obtain ⟨a0, len0, cap0, rfl⟩ := okWide_slice Try.underlying26 (hval 0 26 v0 rfl rfl)
  have k0 := h0
  have lt0 : ∀ x ∈ p0, x.block < W.heap.size := by obtain ⟨m, hm⟩ := k0; exact DataW.trod_lt m _ _ _ hm
  obtain ⟨z0, w0⟩ : ∃ zs, IsRow .u8 W a0 len0 cap0 zs := by
    obtain ⟨fuel, hf⟩ := h0
    rcases open_ints Try.underlying26 Try.underlying5 (by kernel_rfl) hf with ⟨hcs, _⟩ | ⟨x, l, c, zs, hcs, _, hl, hm, hz, _, hcell, hwz⟩
    · simp [Value.cells] at hcs
      obtain ⟨rfl, rfl, rfl⟩ := hcs
      exact ⟨[], .inl ⟨rfl, rfl, rfl, rfl⟩⟩
    · simp [Value.cells] at hcs
      obtain ⟨rfl, rfl, rfl⟩ := hcs
      exact ⟨zs, .inr ⟨_, rfl, hl, hm, by simpa using hz, hcell, hwz⟩⟩
  clear hA0 hval0
  refine (walk a0 len0 cap0 z0 W w0).mono fun e W' ⟨he, bel⟩ => ?_
  subst he
  exact ⟨_, rfl, _, _, _, [], _, [], hW', trodAll_mk1 (shut_bool Try.underlying4 _), (trodAll_cons_mk (Below.trod laidOut (by kernel_rfl) (of_decide_eq_true (by kernel_rfl)) k0 bel lt0) trodAll_mk0), rfl, bel.frame _, fun h => by cases h⟩

theorem over : Rows.fnIsAbsKeptRow.holds Try.pinned (OpenSpec.ofChange Rows.fnIsAbsKeptSpec) :=
  OpenClaim.holds_of_wide 12 Try.f12 rfl rfl rfl rfl rfl rfl rfl ⟨rfl, rfl, rfl, rfl, rfl⟩ rfl rfl rfl rfl rfl (by kernel_rfl) Try.func12 (by kernel_rfl)
    (of_decide_eq_true (by kernel_rfl)) (by unfold Func.isWrapper; first | (rw [if_pos (by decide +kernel)]; kernel_rfl) | (rw [if_neg (by decide +kernel)]; exact ⟨rfl, rfl⟩))
    (fun os started H enc _ => lifted os started H enc)

theorem proved : Rows.FnIsAbsKeptSaid := over
end Go.Proofs.Ytcnaedaonmbakaa.fnIsAbsKept


/-
  exchanged: its contract. Conditions: none beyond those of each theorem.
-/
import Derived.Test.YtnjinkbhepimkaaDoorQuoteB
import Derived.Test.YtnjinkbhepimkaaDoorLawH
namespace Go.Proofs.YtnjinkbhepimkaaDoor
open Go.ChangeShapes Go.WideShapes Go.ChangeAt Go.RowKit

def exq (l : Bs) : Bs := l.map xb
theorem exq_len (l : Bs) : (exq l).length = l.length := List.length_map ..
theorem exq_snoc (l : Bs) (b : UInt8) : exq (l ++ [b]) = exq l ++ [xb b] := by simp [exq]
theorem one_at (w : World) (v : Value) (t : TypeId) : ∀ (j : Nat) (u : Value), [v][j]? = some u → (w.alloc (.cells #[v] t)).cell? ((⟨w.heap.size, 0, none⟩ : Addr).add j) = some u := by
  intro j u hj
  match j, hj with
  | 0, hj => simp at hj; subst hj; simp [Addr.add]
  | j + 1, hj => simp at hj
theorem exchanged_call (l : List UInt8) (w : World) (hl : l.length ≤ 100000000) :
    Calls Tryd.prog 27 #[S l] w fun e w' => e = .returned (S (l.map xb)) ∧ Below w.heap.size w w' := by
  obtain ⟨i0, hi, hz0, hz1, hz2⟩ := info_parts infoU8
  have hlen : (⟨l.toArray⟩ : ByteArray).size = l.length := by simp [ByteArray.size]
  go_enter Tryd.func27, Tryd.ntmps27
  go_wp2
  go_loopw [3, 4] (fun v i wr => ∃ k : Nat, k ≤ l.length ∧ i = .int .i64 k ∧ Byts w.heap.size wr v (exq (l.take k)) ∧ Below w.heap.size w wr) (fun _ i _ => l.length - (intOf i).toNat)
  case atStart => exact ⟨0, Nat.zero_le _, rfl, ⟨World.ownsRow_made w #[] 0 (Nat.le_refl _) (by unfold maxLen; omega) rfl, by simp⟩, (Below.refl _ _).alloc (Nat.le_refl _) _⟩
  case round =>
    obtain ⟨k, hk, rfl, hown, hbel⟩ := hrel
    have HO := Lib.hid hown
    have HB := Lib.hid hbel
    clear hown hbel
    by_cases hlt : k < l.length
    · obtain ⟨y, hy⟩ : ∃ y, l[k]? = some y := ⟨l[k], List.getElem?_eq_getElem hlt⟩
      have iK := atK l k y hy
      have HT : Hid (exq (l.take (k + 1)) = exq (l.take k) ++ [xb y]) := by
        apply Lib.hid
        rw [List.take_add_one, hy]
        exact exq_snoc _ _
      have HQ : Hid ((exq (l.take k)).length ≤ 100000000) := Lib.hid (by rw [exq_len, List.length_take]; omega)
      have hys : y = 97 ∨ y = 98 ∨ (y ≠ 97 ∧ y ≠ 98) := by
        by_cases h1 : y = 97
        · exact .inl h1
        · by_cases h2 : y = 98
          · exact .inr (.inl h2)
          · exact .inr (.inr ⟨h1, h2⟩)
      clear hy
      rcases hys with rfl | rfl | ⟨h1, h2⟩
      · have HX : Hid (xb 97 = 98) := Lib.hid rfl
        rw [HX.out] at HT
        go_wp2_with (at_builtin; refine wpList_append_own _ rfl _ _ 22 rfl w.heap.size 5 i0 (.int .u8 0) 1 1 Tryd.underlying22 hi hz0 hz1 hz2 rfl (by decide) _ _ _ rfl (HO.out.1.alloc _) ⟨wr.heap.size, 0, none⟩ 1 1 [.int .u8 98] rfl rfl ?ca1 ?ca2 ?ca3 ?ca4 ?ca5 ?_)
        case ca1 => exact one_at _ _ _
        case ca2 => intro u hu; simp at hu; subst hu; rfl
        case ca3 => have := HQ.out; unfold maxLen; omega
        case ca4 => have := HQ.out; omega
        case ca5 => have := HB.out.size; simp; omega
        · intro v' w2 hown' hgrow hnn
          have hne : ∀ k, u3.ownBlock = some k → w.heap.size ≤ k := fun k hk => (HO.out.1.lt k hk).1
          have HO2 : Hid (Byts w.heap.size w2 v' (exq (l.take (k + 1)))) := by
            apply Lib.hid
            rw [HT.out]
            refine ⟨?_, by simpa using hnn⟩
            rw [List.length_append, List.map_append]
            exact hown'
          have HB2 := Lib.hid ((HB.out.alloc HB.out.size (.cells #[.int .u8 98] 5)).grown hgrow (by have := HB.out.size; simp; omega) hne)
          clear hown' hgrow hnn hne
          go_wp2
          go_roundw
          case rel => exact ⟨k + 1, by omega, by go_num, HO2.out, HB2.out⟩
          case measure => simp [intOf]; omega
      · have HX : Hid (xb 98 = 97) := Lib.hid rfl
        rw [HX.out] at HT
        go_wp2_with (at_builtin; refine wpList_append_own _ rfl _ _ 22 rfl w.heap.size 5 i0 (.int .u8 0) 1 1 Tryd.underlying22 hi hz0 hz1 hz2 rfl (by decide) _ _ _ rfl (HO.out.1.alloc _) ⟨wr.heap.size, 0, none⟩ 1 1 [.int .u8 97] rfl rfl ?cb1 ?cb2 ?cb3 ?cb4 ?cb5 ?_)
        case cb1 => exact one_at _ _ _
        case cb2 => intro u hu; simp at hu; subst hu; rfl
        case cb3 => have := HQ.out; unfold maxLen; omega
        case cb4 => have := HQ.out; omega
        case cb5 => have := HB.out.size; simp; omega
        · intro v' w2 hown' hgrow hnn
          have hne : ∀ k, u3.ownBlock = some k → w.heap.size ≤ k := fun k hk => (HO.out.1.lt k hk).1
          have HO2 : Hid (Byts w.heap.size w2 v' (exq (l.take (k + 1)))) := by
            apply Lib.hid
            rw [HT.out]
            refine ⟨?_, by simpa using hnn⟩
            rw [List.length_append, List.map_append]
            exact hown'
          have HB2 := Lib.hid ((HB.out.alloc HB.out.size (.cells #[.int .u8 97] 5)).grown hgrow (by have := HB.out.size; simp; omega) hne)
          clear hown' hgrow hnn hne
          go_wp2
          go_roundw
          case rel => exact ⟨k + 1, by omega, by go_num, HO2.out, HB2.out⟩
          case measure => simp [intOf]; omega
      · have HX : Hid (xb y = y) := Lib.hid (by unfold xb; rw [if_neg h1, if_neg h2])
        rw [HX.out] at HT
        have e1 : ((y.toNat : Int) == 97) = false := by
          rw [beq_eq_false_iff_ne]
          intro e
          exact h1 (UInt8.toNat_inj.1 (by have h9 : (97 : UInt8).toNat = 97 := rfl; omega))
        have e2 : ((y.toNat : Int) == 98) = false := by
          rw [beq_eq_false_iff_ne]
          intro e
          exact h2 (UInt8.toNat_inj.1 (by have h9 : (98 : UInt8).toNat = 98 := rfl; omega))
        clear h1 h2
        go_wp2_with (at_builtin; refine wpList_append_own _ rfl _ _ 22 rfl w.heap.size 5 i0 (.int .u8 0) 1 1 Tryd.underlying22 hi hz0 hz1 hz2 rfl (by decide) _ _ _ rfl (HO.out.1.alloc _) ⟨wr.heap.size, 0, none⟩ 1 1 [.int .u8 (y.toNat : Int)] rfl rfl ?cc1 ?cc2 ?cc3 ?cc4 ?cc5 ?_)
        case cc1 => exact one_at _ _ _
        case cc2 => intro u hu; simp at hu; subst hu; rfl
        case cc3 => have := HQ.out; unfold maxLen; omega
        case cc4 => have := HQ.out; omega
        case cc5 => have := HB.out.size; simp; omega
        · intro v' w2 hown' hgrow hnn
          have hne : ∀ k, u3.ownBlock = some k → w.heap.size ≤ k := fun k hk => (HO.out.1.lt k hk).1
          have HO2 : Hid (Byts w.heap.size w2 v' (exq (l.take (k + 1)))) := by
            apply Lib.hid
            rw [HT.out]
            refine ⟨?_, by simpa using hnn⟩
            rw [List.length_append, List.map_append]
            exact hown'
          have HB2 := Lib.hid ((HB.out.alloc HB.out.size (.cells #[.int .u8 (y.toNat : Int)] 5)).grown hgrow (by have := HB.out.size; simp; omega) hne)
          clear hown' hgrow hnn hne
          go_wp2
          go_roundw
          case rel => exact ⟨k + 1, by omega, by go_num, HO2.out, HB2.out⟩
          case measure => simp [intOf]; omega
    · obtain rfl : k = l.length := by omega
      have hcv := HO.out.conv
      rw [List.take_length] at hcv
      go_wp2
      go_ret
      exact ⟨rfl, HB.out⟩

end Go.Proofs.YtnjinkbhepimkaaDoor

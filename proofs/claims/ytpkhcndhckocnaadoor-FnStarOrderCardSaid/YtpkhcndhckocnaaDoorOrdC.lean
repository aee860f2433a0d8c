/-
  inOrder: its contract. Conditions: none beyond those of each theorem.
-/
import Derived.Test.YtpkhcndhckocnaaDoorHand
import Derived.Test.YtpkhcndhckocnaaDoorDrawP
import Derived.Test.YtpkhcndhckocnaaDoorLawG
namespace Go.Proofs.YtpkhcndhckocnaaDoor
open Go.ChangeShapes Go.WideShapes Go.ChangeAt Go.RowKit

theorem ba_drop' (N : ByteArray) (a e : Nat) (he : e = N.size) : (N.extract a e).data.toList = N.data.toList.drop a := by
  have := ba_drop N.data.toList a e he
  rw [← ba_of N] at this
  exact this
def bsOf (ss : List ByteArray) : List Bs := ss.map fun s => s.data.toList
theorem bsOf_snoc (ss : List ByteArray) (s : ByteArray) : bsOf (ss ++ [s]) = bsOf ss ++ [s.data.toList] := by simp [bsOf]
theorem bsOf_drop {ss : List ByteArray} {k : Nat} {s : ByteArray} (h : ss[k]? = some s) : bsOf (ss.drop k) = s.data.toList :: bsOf (ss.drop (k + 1)) := by
  obtain ⟨hk, rfl⟩ := List.getElem?_eq_some_iff.1 h
  rw [List.drop_eq_getElem_cons hk]
  rfl

theorem inOrder_call (v : Value) (ss : List ByteArray) (N : ByteArray) (w : World) (hM : MaxAt w) (hS : StrsRd w v ss) (hn : N.size ≤ 100000000) (hs : letters ss ≤ 100000000) (hc : ss.length ≤ 100000000) :
    Calls Tryd.prog 30 #[v, .string N] w fun e w' => e = .returned (.bool (inOrd (bsOf ss) N.data.toList)) ∧ Below w.heap.size w w' := by
  obtain ⟨g, cap, rfl, hg, hcells⟩ := hS
  have HC := Lib.hid hcells
  have HM := Lib.hid hM
  clear hcells hM
  go_enter Tryd.func30, Tryd.ntmps30
  go_wp2
  go_loopw [1, 10] (fun nv i wr => ∃ (k : Nat) (L : ByteArray), i = .int .i64 (k : Nat) ∧ k ≤ ss.length ∧ nv = .string L ∧ inOrd (bsOf ss) N.data.toList = inOrd (bsOf (ss.drop k)) L.data.toList ∧ L.size ≤ N.size ∧ w = wr) (fun _ i _ => ss.length - (intOf i).toNat)
  case atStart => exact ⟨0, N, rfl, by omega, rfl, rfl, Nat.le_refl _, rfl⟩
  case round =>
    obtain ⟨k, L, rfl, hk, rfl, hi, hL, rfl⟩ := hrel
    have HI := Lib.hid hi
    clear hi
    by_cases hkl : k < ss.length
    · obtain ⟨s, hs⟩ : ∃ s, ss[k]? = some s := ⟨_, List.getElem?_eq_getElem hkl⟩
      have hcell := HC.out k s hs
      have HD := Lib.hid (bsOf_drop hs)
      have hsl : s.size ≤ letters ss := by
        have h1 : letters (ss.take (k + 1)) = letters (ss.take k) + s.size := by rw [List.take_add_one, hs]; exact letters_snoc _ _
        have h2 := letters_take ss (k + 1)
        omega
      have hLl : L.data.toList.length = L.size := rfl
      have hsl2 : s.data.toList.length = s.size := rfl
      clear hs HC
      go_wp2_with fail
      refine (indexB L s L.data.toList s.data.toList _ HM.out rfl rfl (by omega)).mono ?_
      rintro e w2 ⟨rfl, rfl⟩
      by_cases h0 : 0 ≤ Lib.index L.data.toList s.data.toList
      · have hroom := Lib.index_room _ _ h0
        have HN : Hid (inOrd (bsOf ss) N.data.toList = inOrd (bsOf (ss.drop (k + 1))) (L.data.toList.drop ((Lib.index L.data.toList s.data.toList).toNat + s.data.toList.length))) := Lib.hid (by
          rw [HI.out, HD.out]
          conv => lhs; unfold inOrd
          rw [if_pos h0])
        obtain ⟨j, hj⟩ := Int.eq_ofNat_of_zero_le h0
        rw [hj] at HN hroom ⊢
        clear hj h0 HI HD
        have z1 : ¬ (j : Int) < 0 := by omega
        have z2 : (j : Int) + (s.size : Int) ≤ (L.size : Int) := by omega
        have HX : Hid (∀ a e, a = j + s.size → e = L.size → (L.extract a e).data.toList = L.data.toList.drop ((j : Int).toNat + s.data.toList.length)) := Lib.hid (by rintro a e rfl rfl; exact ba_drop' L _ _ rfl)
        go_wp2
        go_roundw
        case rel =>
          exact ⟨k + 1, _, by go_num, by omega, rfl, by rw [HN.out, HX.out _ _ (by first | rfl | omega | (simp; done) | (simp; omega)) (by first | rfl | omega | simp)], by rw [ba_len, HX.out _ _ (by first | rfl | omega | (simp; done) | (simp; omega)) (by first | rfl | omega | simp), List.length_drop]; omega, by first | rfl | trivial⟩
        case measure => simp [intOf]; omega
      · have HN : Hid (inOrd (bsOf ss) N.data.toList = false) := Lib.hid (by
          rw [HI.out, HD.out]
          conv => lhs; unfold inOrd
          rw [if_neg h0])
        have z1 : Lib.index L.data.toList s.data.toList < 0 := by omega
        generalize Lib.index L.data.toList s.data.toList = J at *
        clear HI HD h0
        go_wp2
        go_ret
        exact ⟨by rw [HN.out]; rfl, Below.refl _ _⟩
    · obtain rfl : k = ss.length := by omega
      have HN : Hid (inOrd (bsOf ss) N.data.toList = true) := Lib.hid (by rw [HI.out, List.drop_length]; rfl)
      clear HI HC
      go_wp2
      go_ret
      exact ⟨by rw [HN.out]; rfl, Below.refl _ _⟩

end Go.Proofs.YtpkhcndhckocnaaDoor

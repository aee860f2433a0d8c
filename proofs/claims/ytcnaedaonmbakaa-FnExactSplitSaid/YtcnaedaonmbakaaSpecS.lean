/-
  The reference's behindSlash, Split and Ext: contracts. Conditions: none beyond those of each theorem.
-/
import Derived.Test.YtcnaedaonmbakaaPathC
namespace Go.Proofs.Ytcnaedaonmbakaa
open Go.ChangeShapes Go.WideShapes Go.ChangeAt Go.RowKit

theorem ret_int {k : IntKind} {a b : Int} (h : a = b) : Ending.returned (.int k a) = .returned (.int k b) := by rw [h]

/-- The index behind the final slash. -/
def bslash (l : List UInt8) : Nat := (Lib.Pa.lastIndexByte l 47 + 1).toNat
theorem bslash_le (l : List UInt8) : bslash l ≤ l.length := by
  have := Lib.Pa.lastIndexByte_bounds l 47
  unfold bslash
  omega

theorem behindSlash_any (s : ByteArray) (w : World) (h : s.size ≤ 9223372036854775807) :
    Calls Try.prog 34 #[.string s] w fun e w' => e = .returned (.int .i64 (bslash s.data.toList)) ∧ w = w' := by
  go_enter Try.func34, Try.ntmps34
  go_wp2
  go_loop [3] (fun i => ∃ k : Nat, k ≤ s.size ∧ i = .int .i64 k ∧ Lib.Pa.lastIdx s.data.toList 47 s.size = Lib.Pa.lastIdx s.data.toList 47 k) (fun i => (intOf i).toNat)
  case atStart => exact ⟨s.size, Nat.le_refl _, rfl, rfl⟩
  case round =>
    obtain ⟨k, hk, rfl, hl⟩ := hrel
    have HL := Lib.hid hl
    clear hl
    by_cases h0 : 0 < k
    · have hb := Lib.Pa.at_eq s (k - 1) (by omega)
      have HB := Lib.hid hb
      clear hb
      cases ht : (((s[k - 1]'(by omega)).toNat : Int) != 47) with
      | true =>
        have ht' : (((s[k - 1]'(by omega)).toNat : Int) == ((47 : UInt8).toNat : Int)) = false := by simpa [bne] using ht
        have HN := Lib.hid (Lib.Pa.lastIdx_miss s.data.toList 47 k _ (by omega) HB.out ht')
        clear ht'
        go_wp2
        go_round
        case rel => exact ⟨k - 1, by omega, by go_num, by rw [HL.out, HN.out]⟩
        case measure => simp [intOf]; omega
      | false =>
        have ht' : (((s[k - 1]'(by omega)).toNat : Int) == ((47 : UInt8).toNat : Int)) = true := by simpa [bne] using ht
        have HN := Lib.hid (Lib.Pa.lastIdx_hit s.data.toList 47 k _ (by omega) HB.out ht')
        clear ht'
        go_wp2
        go_ret
        refine ⟨ret_int ?_, rfl⟩
        unfold bslash Lib.Pa.lastIndexByte
        rw [← Lib.size_eq, HL.out, HN.out]
        omega
    · go_wp2
      go_ret
      refine ⟨ret_int ?_, rfl⟩
      obtain rfl : k = 0 := by omega
      unfold bslash Lib.Pa.lastIndexByte
      rw [← Lib.size_eq, HL.out]
      rfl

theorem specSplit (s : ByteArray) (w : World) (h : s.size ≤ 9223372036854775807) :
    Calls Try.prog 17 #[.string s] w fun e w' => e = .returned (.tuple #[S (Lib.Pa.split s.data.toList).1, S (Lib.Pa.split s.data.toList).2]) ∧ Below w.heap.size w w' := by
  have e1 : Hid (s.extract 0 (bslash s.data.toList) = ⟨(Lib.Pa.split s.data.toList).1.toArray⟩) := Lib.Pa.extract_upto s _
  have e2 : Hid (s.extract (bslash s.data.toList) s.size = ⟨(Lib.Pa.split s.data.toList).2.toArray⟩) := Lib.Pa.extract_from s _
  have hle : bslash s.data.toList ≤ s.size := by rw [Lib.size_eq]; exact bslash_le _
  go_enter Try.func17, Try.ntmps17
  go_wp2_with fail
  refine (behindSlash_any s _ h).mono ?_
  rintro e w1 ⟨rfl, rfl⟩
  generalize bslash s.data.toList = k at *
  go_wp2_with fail
  go_quiet (fail)
  go_wp2
  go_ret2
  refine ⟨?_, below_drewN (Below.refl _ _) _⟩
  show Ending.returned (.tuple #[.string (s.extract 0 k), .string (s.extract k s.size)]) = _
  rw [e1.out, e2.out]

theorem lastOcc_one (l : List UInt8) (c : UInt8) : ∀ k, Lib.lastOcc l [c] k = Lib.Pa.lastIdx l c k
  | 0 => rfl
  | k + 1 => by
    unfold Lib.lastOcc Lib.Pa.lastIdx
    have e : (Lib.occAt l [c] k = true) = (l[k]? = some c) := by
      unfold Lib.occAt
      rw [← List.head?_drop]
      cases l.drop k with
      | nil => simp [List.isPrefixOf]
      | cons a t => simp [List.isPrefixOf]; exact eq_comm
    rw [lastOcc_one l c k]
    simp only [e]
theorem lastIndex_one (l : List UInt8) (c : UInt8) : Lib.lastIndex l [c] = Lib.Pa.lastIndexByte l c := by
  unfold Lib.lastIndex Lib.Pa.lastIndexByte
  split
  · rename_i h
    have h' : 1 ≤ l.length := h
    rw [lastOcc_one]
    show Lib.Pa.lastIdx l c (l.length - 1 + 1) = _
    rw [Nat.sub_add_cancel h']
  · rename_i h
    have : l = [] := by cases l with | nil => rfl | cons a t => simp at h
    subst this
    rfl
theorem specExt (s : ByteArray) (w : World) (h : s.size < 4611686018427387904) :
    Calls Try.prog 19 #[.string s] w fun e w' => e = .returned (S (Lib.Pa.ext s.data.toList)) ∧ Below w.heap.size w w' := by
  have hlen : (Lib.Pa.split s.data.toList).2.length ≤ s.size := by rw [Lib.size_eq]; unfold Lib.Pa.split; simp
  have hE : Hid (Lib.Pa.ext s.data.toList = if 0 ≤ Lib.Pa.lastIndexByte (Lib.Pa.split s.data.toList).2 46 then (Lib.Pa.split s.data.toList).2.drop (Lib.Pa.lastIndexByte (Lib.Pa.split s.data.toList).2 46).toNat else []) := rfl
  go_enter Try.func19, Try.ntmps19
  go_wp2_with fail
  refine (specSplit s _ (by omega)).mono ?_
  rintro e w1 ⟨rfl, hb⟩
  have HB := Lib.hid hb
  clear hb
  generalize (Lib.Pa.split s.data.toList).1 = d
  generalize (Lib.Pa.split s.data.toList).2 = f at *
  have hf : (⟨f.toArray⟩ : ByteArray).size = f.length := by simp [ByteArray.size]
  go_wp2_with fail
  refine (Try.strings_LastIndex ⟨f.toArray⟩ ⟨#[46]⟩ (by omega) _).mono ?_
  rintro e w2 ⟨rfl, rfl⟩
  have hi : Lib.lastIndex f [46] = Lib.Pa.lastIndexByte f 46 := lastIndex_one f 46
  have hi' : Lib.lastIndex (⟨f.toArray⟩ : ByteArray).data.toList (⟨#[46]⟩ : ByteArray).data.toList = Lib.Pa.lastIndexByte f 46 := hi
  rw [hi']
  clear hi hi'
  have hbd := Lib.Pa.lastIndexByte_bounds f 46
  generalize Lib.Pa.lastIndexByte f 46 = i at *
  by_cases h0 : 0 ≤ i
  · obtain ⟨k, rfl⟩ := Int.eq_ofNat_of_zero_le h0
    have HE : Hid (Lib.Pa.ext s.data.toList = f.drop k) := by have := hE.out; rw [if_pos h0, Int.toNat_natCast] at this; exact this
    have HX : Hid ((⟨f.toArray⟩ : ByteArray).extract k (⟨f.toArray⟩ : ByteArray).size = ⟨(f.drop k).toArray⟩) := Lib.Pa.extract_from ⟨f.toArray⟩ k
    clear hE
    have HF := Lib.hid hf
    have hk : k ≤ (⟨f.toArray⟩ : ByteArray).size := by omega
    clear hf
    go_wp2
    go_ret
    refine ⟨?_, HB.out⟩
    show Ending.returned (.string ((⟨f.toArray⟩ : ByteArray).extract k (⟨f.toArray⟩ : ByteArray).size)) = _
    rw [HX.out, HE.out]
  · have HE : Hid (Lib.Pa.ext s.data.toList = []) := by have := hE.out; rw [if_neg h0] at this; exact this
    clear hE hf
    go_wp2
    go_ret
    refine ⟨?_, HB.out⟩
    rw [HE.out]
    rfl

end Go.Proofs.Ytcnaedaonmbakaa

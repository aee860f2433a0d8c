/-
  The reference's behindSlash, Split and Ext: contracts. Conditions: none beyond those of each theorem.
-/
import Derived.Test.YtlekeaganaliiaaDoorPathC
namespace Go.Proofs.YtlekeaganaliiaaDoor
open Go.ChangeShapes Go.WideShapes Go.ChangeAt Go.RowKit

theorem ret_int {k : IntKind} {a b : Int} (h : a = b) : Ending.returned (.int k a) = .returned (.int k b) := by rw [h]

/-- The index behind the final slash. -/
def bslash (l : List UInt8) : Nat := (Lib.Pa.lastIndexByte l 47 + 1).toNat
theorem bslash_le (l : List UInt8) : bslash l ≤ l.length := by
  have := Lib.Pa.lastIndexByte_bounds l 47
  unfold bslash
  omega

theorem behindSlash_any (s : ByteArray) (w : World) (h : s.size ≤ 9223372036854775807) :
    Calls Tryd.prog 72 #[.string s] w fun e w' => e = .returned (.int .i64 (bslash s.data.toList)) ∧ w = w' := by
  go_enter Tryd.func72, Tryd.ntmps72
  go_wp2
  go_loop [3] (fun i => ∃ k : Nat, k ≤ s.size ∧ i = .int .i64 k ∧ Lib.Pa.lastIdx s.data.toList 47 s.size = Lib.Pa.lastIdx s.data.toList 47 k) (fun i => (intOf i).toNat)
  case atStart => exact ⟨s.size, Nat.le_refl _, rfl, rfl⟩
  case round =>
    obtain ⟨k, hk, rfl, hl⟩ := hrel
    have HL := Lib.hid hl
    clear hl
    by_cases h0 : 0 < k
    · have hb := Lib.Pa.at_eq s (k - 1) (by omega)
      have HB := Lib.hid hb
      clear hb
      cases ht : (((s[k - 1]'(by omega)).toNat : Int) != 47) with
      | true =>
        have ht' : (((s[k - 1]'(by omega)).toNat : Int) == ((47 : UInt8).toNat : Int)) = false := by simpa [bne] using ht
        have HN := Lib.hid (Lib.Pa.lastIdx_miss s.data.toList 47 k _ (by omega) HB.out ht')
        clear ht'
        go_wp2
        go_round
        case rel => exact ⟨k - 1, by omega, by go_num, by rw [HL.out, HN.out]⟩
        case measure => simp [intOf]; omega
      | false =>
        have ht' : (((s[k - 1]'(by omega)).toNat : Int) == ((47 : UInt8).toNat : Int)) = true := by simpa [bne] using ht
        have HN := Lib.hid (Lib.Pa.lastIdx_hit s.data.toList 47 k _ (by omega) HB.out ht')
        clear ht'
        go_wp2
        go_ret
        refine ⟨ret_int ?_, rfl⟩
        unfold bslash Lib.Pa.lastIndexByte
        rw [← Lib.size_eq, HL.out, HN.out]
        omega
    · go_wp2
      go_ret
      refine ⟨ret_int ?_, rfl⟩
      obtain rfl : k = 0 := by omega
      unfold bslash Lib.Pa.lastIndexByte
      rw [← Lib.size_eq, HL.out]
      rfl

theorem specSplit (s : ByteArray) (w : World) (h : s.size ≤ 9223372036854775807) :
    Calls Tryd.prog 77 #[.string s] w fun e w' => e = .returned (.tuple #[S (Lib.Pa.split s.data.toList).1, S (Lib.Pa.split s.data.toList).2]) ∧ Below w.heap.size w w' := by
  have e1 : Hid (s.extract 0 (bslash s.data.toList) = ⟨(Lib.Pa.split s.data.toList).1.toArray⟩) := Lib.Pa.extract_upto s _
  have e2 : Hid (s.extract (bslash s.data.toList) s.size = ⟨(Lib.Pa.split s.data.toList).2.toArray⟩) := Lib.Pa.extract_from s _
  have hle : bslash s.data.toList ≤ s.size := by rw [Lib.size_eq]; exact bslash_le _
  go_enter Tryd.func77, Tryd.ntmps77
  go_wp2_with fail
  refine (behindSlash_any s _ h).mono ?_
  rintro e w1 ⟨rfl, rfl⟩
  generalize bslash s.data.toList = k at *
  go_wp2_with fail
  go_quiet (fail)
  go_wp2
  go_ret2
  refine ⟨?_, below_drewN (Below.refl _ _) _⟩
  show Ending.returned (.tuple #[.string (s.extract 0 k), .string (s.extract k s.size)]) = _
  rw [e1.out, e2.out]


end Go.Proofs.YtlekeaganaliiaaDoor

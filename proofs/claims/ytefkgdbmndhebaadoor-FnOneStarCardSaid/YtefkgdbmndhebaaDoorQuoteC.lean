/-
  spec.Quote: its contract. Conditions: none beyond those of each theorem.
-/
import Derived.Test.YtefkgdbmndhebaaDoorLawT
import Derived.Test.YtefkgdbmndhebaaDoorPlainS
namespace Go.Proofs.YtefkgdbmndhebaaDoor
open Go.ChangeShapes Go.WideShapes Go.ChangeAt Go.RowKit

theorem quoteW_cons (c : Nat) (cs : List Nat) : quoteW (c :: cs) = 92 :: (enc c ++ quoteW cs) := by simp [quoteW]

def QuoteRel (l : Bs) (w : World) (out : Value) (w' : World) : Prop := ∃ (pos : Nat) (s : ByteArray), pos ≤ l.length ∧ out = .string s ∧ w' = w.iter ⟨l.toArray⟩ pos ∧ quoteB l = s.data.toList ++ quoteW (runes (l.drop pos)) ∧ s.size ≤ 5 * pos

set_option maxHeartbeats 1000000 in
theorem quote_call (l : Bs) (w : World) (hl : l.length ≤ 100000000) :
    Calls Tryd.prog 29 #[S l] w fun e w' => e = .returned (S (quoteB l)) ∧ Below w.heap.size w w' := by
  have hsz : (⟨l.toArray⟩ : ByteArray).size = l.length := rfl
  have HS := Lib.hid hsz
  clear hsz
  go_enter Tryd.func29, Tryd.ntmps29
  go_wp2
  go_loopw [3] (fun o w' => QuoteRel l w o w') (fun _ w' => l.length - w'.iterPos w.heap.size)
  case atStart => exact ⟨0, ByteArray.empty, Nat.zero_le _, rfl, rfl, rfl, by simp⟩
  case round =>
    obtain ⟨pos, s, hpos, rfl, rfl, hq, hs5⟩ := hrel
    have HQ := Lib.hid hq
    clear hq
    have HBe : Hid (∀ q, Below w.heap.size w (w.iter ⟨l.toArray⟩ q)) := fun q => (Below.refl _ w).alloc (Nat.le_refl _) _
    by_cases hp : pos < l.length
    · have hne : l.drop pos ≠ [] := by intro e; have := congrArg List.length e; rw [List.length_drop, List.length_nil] at this; omega
      have hge := dec_ge hne
      have hle := dec_le (l.drop pos)
      rw [List.length_drop] at hle
      have hrl := dec_rune_le (l.drop pos)
      have HN : Hid (quoteB l = (s ++ ⟨#[92]⟩ ++ Utf8.encode (((dec (l.drop pos)).1 : Nat) : Int) : ByteArray).data.toList ++ quoteW (runes (l.drop (pos + (dec (l.drop pos)).2)))) := Lib.hid (by
        rw [HQ.out, runes_ne _ hne, quoteW_cons, ba_app, ba_app, encode_enc, List.drop_drop]
        simp)
      have hnx : ∀ ty, (Instr.next (.pointer (some ⟨w.heap.size, 0, none⟩)) true ty).run Tryd.prog (w.iter ⟨l.toArray⟩ pos) = .ok (.tuple #[.bool true, .int .i64 pos, .int .i32 ((dec (l.drop pos)).1 : Nat)]) (w.iter ⟨l.toArray⟩ (pos + (dec (l.drop pos)).2)) := fun ty => by
        rw [run_next_any w ⟨l.toArray⟩ pos ty (by rw [HS.out]; exact hp), decode_drop l pos hp]
      clear HQ hne
      generalize (dec (l.drop pos)).1 = R at *
      generalize (dec (l.drop pos)).2 = K at *
      have hz := encode_size_le (R : Int)
      have hz2 : (s ++ ⟨#[92]⟩ ++ Utf8.encode ((R : Nat) : Int) : ByteArray).size ≤ 5 * (pos + K) := by
        rw [ByteArray.size_append, ByteArray.size_append]
        show s.size + 1 + _ ≤ _
        omega
      go_wp2
      go_roundw
      case rel => exact ⟨pos + K, _, by omega, rfl, rfl, HN.out, hz2⟩
      case measure => simp; omega
    · have hnx : ∀ ty, (Instr.next (.pointer (some ⟨w.heap.size, 0, none⟩)) true ty).run Tryd.prog (w.iter ⟨l.toArray⟩ pos) = _ := fun ty => run_next_end w ⟨l.toArray⟩ pos ty (by rw [HS.out]; exact hp)
      go_wp2
      go_ret
      refine ⟨ret_str ?_, HBe.out _⟩
      rw [HQ.out, List.drop_eq_nil_of_le (by omega)]
      show _ = _ ++ []
      rw [List.append_nil]
theorem quoteCB (P : ByteArray) (l : Bs) (w : World) (hP : P.data.toList = l) (hl : l.length ≤ 100000000) :
    Calls Tryd.prog 29 #[.string P] w fun e w' => e = .returned (S (quoteB l)) ∧ Below w.heap.size w w' := by
  rw [str_eq hP]
  exact quote_call l w hl

end Go.Proofs.YtefkgdbmndhebaaDoor

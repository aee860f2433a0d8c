/-
  spec.special, spec.IsPlain: contracts. Conditions: none beyond those of each theorem.
-/
import Derived.Test.YtgpcnckiabjefaaDoorMatchR
import Derived.Test.YtgpcnckiabjefaaDoorBase
import Derived.Test.YtgpcnckiabjefaaDoorWriteT
import Derived.Laws.RangeAny
namespace Go.Proofs.YtgpcnckiabjefaaDoor
open Go.ChangeShapes Go.WideShapes Go.ChangeAt Go.RowKit


theorem special_call (c : Nat) (w : World) (hc : c ≤ 2147483647) :
    Calls Tryd.prog 45 #[.int .i32 (c : Nat)] w fun e w' => e = .returned (.bool (spB c)) ∧ w' = w := by
  by_cases h1 : c = 42
  · subst h1
    go_enter Tryd.func45, Tryd.ntmps45
    go_wp2
    go_ret
    exact ⟨rfl, rfl⟩
  · by_cases h2 : c = 63
    · subst h2
      go_enter Tryd.func45, Tryd.ntmps45
      go_wp2
      go_ret
      exact ⟨rfl, rfl⟩
    · by_cases h3 : c = 91
      · subst h3
        go_enter Tryd.func45, Tryd.ntmps45
        go_wp2
        go_ret
        exact ⟨rfl, rfl⟩
      · by_cases h4 : c = 92
        · subst h4
          go_enter Tryd.func45, Tryd.ntmps45
          go_wp2
          go_ret
          exact ⟨rfl, rfl⟩
        · have e1 : (((c : Nat) : Int) == 42) = false := by simp; omega
          have e2 : (((c : Nat) : Int) == 63) = false := by simp; omega
          have e3 : (((c : Nat) : Int) == 91) = false := by simp; omega
          have e4 : (((c : Nat) : Int) == 92) = false := by simp; omega
          have HF : Hid (false = spB c) := by apply Lib.hid; simp [spB, h1, h2, h3, h4]
          clear h1 h2 h3 h4
          go_enter Tryd.func45, Tryd.ntmps45
          go_wp2
          go_ret
          exact ⟨by rw [← HF.out]; rfl, rfl⟩

def plainRel (l : List UInt8) (w w' : World) : Prop := ∃ pos, pos ≤ l.length ∧ w' = w.iter ⟨l.toArray⟩ pos ∧ (runes l).all (fun c => !spB c) = (runes (l.drop pos)).all (fun c => !spB c)

theorem isPlain_call (l : List UInt8) (w : World) :
    Calls Tryd.prog 33 #[S l] w fun e w' => e = .returned (.bool ((runes l).all fun c => !spB c)) ∧ Below w.heap.size w w' := by
  have hsz : (⟨l.toArray⟩ : ByteArray).size = l.length := by simp [ByteArray.size]
  have HS := Lib.hid hsz
  clear hsz
  go_enter Tryd.func33, Tryd.ntmps33
  go_wp2
  go_loopw [4] (fun _ w' => plainRel l w w') (fun _ w' => l.length - w'.iterPos w.heap.size)
  case atStart => exact ⟨0, Nat.zero_le _, rfl, rfl⟩
  case round =>
    obtain ⟨pos, hpos, rfl, hall⟩ := hrel
    have HA := Lib.hid hall
    clear hall
    have HBe : Hid (∀ q, Below w.heap.size w (w.iter ⟨l.toArray⟩ q)) := fun q => (Below.refl _ w).alloc (Nat.le_refl _) _
    by_cases hp : pos < l.length
    · have hne : l.drop pos ≠ [] := by intro e; have := congrArg List.length e; rw [List.length_drop, List.length_nil] at this; omega
      have hge := dec_ge hne
      have hle := dec_le (l.drop pos)
      rw [List.length_drop] at hle
      have hrl := dec_rune_le (l.drop pos)
      have HN : Hid ((runes l).all (fun c => !spB c) = (!spB (dec (l.drop pos)).1 && (runes (l.drop (pos + (dec (l.drop pos)).2))).all fun c => !spB c)) := by
        apply Lib.hid
        rw [HA.out, runes_ne _ hne, List.all_cons, List.drop_drop]
      have hnx : ∀ ty, (Instr.next (.pointer (some ⟨w.heap.size, 0, none⟩)) true ty).run Tryd.prog (w.iter ⟨l.toArray⟩ pos) = .ok (.tuple #[.bool true, .int .i64 pos, .int .i32 ((dec (l.drop pos)).1 : Nat)]) (w.iter ⟨l.toArray⟩ (pos + (dec (l.drop pos)).2)) := fun ty => by
        rw [run_next_any w ⟨l.toArray⟩ pos ty (by rw [HS.out]; exact hp), decode_drop l pos hp]
      clear HA hne
      generalize (dec (l.drop pos)).1 = R at *
      generalize (dec (l.drop pos)).2 = K at *
      have hcall := Lib.hid (fun w' => special_call R w' (by omega))
      go_wp2_with fail
      refine (hcall.out _).mono ?_
      rintro e w2 ⟨rfl, rfl⟩
      clear hcall
      obtain ⟨b, hb⟩ : ∃ b, b = spB R := ⟨_, rfl⟩
      rw [← hb] at HN ⊢
      clear hb
      cases b with
      | true =>
        have F : Hid (false = (runes l).all (fun c => !spB c)) := HN.out.symm
        clear HN hnx
        go_wp2
        go_ret
        exact ⟨by rw [← F.out]; rfl, HBe.out _⟩
      | false =>
        have F : Hid ((runes l).all (fun c => !spB c) = (runes (l.drop (pos + K))).all fun c => !spB c) := HN.out
        clear HN hnx
        go_wp2
        go_roundw
        case rel => exact ⟨pos + K, by omega, rfl, F.out⟩
        case measure => simp; omega
    · have hnx : ∀ ty, (Instr.next (.pointer (some ⟨w.heap.size, 0, none⟩)) true ty).run Tryd.prog (w.iter ⟨l.toArray⟩ pos) = _ := fun ty => run_next_end w ⟨l.toArray⟩ pos ty (by rw [HS.out]; exact hp)
      have F : Hid (true = (runes l).all (fun c => !spB c)) := by
        apply Lib.hid
        rw [HA.out, List.drop_eq_nil_of_le (by omega)]
        rfl
      clear HA
      go_wp2
      go_ret
      exact ⟨by rw [← F.out]; rfl, HBe.out _⟩

end Go.Proofs.YtgpcnckiabjefaaDoor

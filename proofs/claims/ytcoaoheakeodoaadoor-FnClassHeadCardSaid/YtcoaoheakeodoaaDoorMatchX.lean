/-
  path.scanChunk: its contract. Conditions: none beyond those of each theorem.
-/
import Derived.Test.YtcoaoheakeodoaaDoorMatchW
namespace Go.Proofs.YtcoaoheakeodoaaDoor
open Go.ChangeShapes Go.WideShapes Go.ChangeAt Go.RowKit

def strLen : Value → Nat | .string s => s.size | _ => 0

theorem drop_at {l : List UInt8} {k : Nat} {x : UInt8} (h : l[k]? = some x) : l.drop k = x :: l.drop (k + 1) := by
  have hk : k < l.length := by
    rcases Nat.lt_or_ge k l.length with h' | h'
    · exact h'
    · rw [List.getElem?_eq_none h'] at h; cases h
  rw [List.drop_eq_getElem_cons hk]
  rw [List.getElem?_eq_getElem hk] at h
  injection h with h
  rw [h]

def ScanRel1 (l : List UInt8) (p st : Value) : Prop := ∃ (c : List UInt8) (b : Bool), p = S c ∧ st = .bool b ∧ c.length ≤ l.length ∧ c.dropWhile (· == 42) = l.dropWhile (· == 42) ∧ (b || (c.head? == some 42)) = (l.head? == some 42)
def ScanRel2 (q : List UInt8) (ir i : Value) : Prop := ∃ (k : Nat) (b : Bool), k ≤ q.length ∧ i = .int .i64 k ∧ ir = .bool b ∧ scanEnd q false = k + scanEnd (q.drop k) b

theorem scan92 (y : UInt8) (t : List UInt8) (b : Bool) : scanEnd (92 :: y :: t) b = scanEnd t b + 2 := by
  conv => lhs; unfold scanEnd
  rw [if_pos rfl]
theorem scan91 (t : List UInt8) (b : Bool) : scanEnd (91 :: t) b = scanEnd t true + 1 := by
  conv => lhs; unfold scanEnd
  rw [if_neg (by decide), if_pos rfl]
theorem scan93 (t : List UInt8) (b : Bool) : scanEnd (93 :: t) b = scanEnd t false + 1 := by
  conv => lhs; unfold scanEnd
  rw [if_neg (by decide), if_neg (by decide), if_pos rfl]
theorem scan42 (t : List UInt8) (b : Bool) : scanEnd (42 :: t) b = if b then scanEnd t b + 1 else 0 := by
  conv => lhs; unfold scanEnd
  rw [if_neg (by decide), if_neg (by decide), if_neg (by decide), if_pos rfl]
theorem scanO (x : UInt8) (t : List UInt8) (b : Bool) (h1 : x ≠ 92) (h2 : x ≠ 91) (h3 : x ≠ 93) (h4 : x ≠ 42) : scanEnd (x :: t) b = scanEnd t b + 1 := by
  conv => lhs; unfold scanEnd
  rw [if_neg h1, if_neg h2, if_neg h3, if_neg h4]

def ScanPost (l : List UInt8) (w : World) (e : Ending) (w' : World) : Prop := e = .returned (.tuple #[.bool (l.head? == some 42), S (chunkOf l), S (restOf l)]) ∧ Below w.heap.size w w'

set_option maxHeartbeats 1600000 in
theorem scanChunk_call (l : List UInt8) (w : World) (hl : l.length ≤ 1000000000) :
    Calls Tryd.prog 62 #[S l] w (ScanPost l w) := by
  go_enter Tryd.func62, Tryd.ntmps62
  go_wp2
  go_loop [0, 2] (fun p st => ScanRel1 l p st) (fun p _ => strLen p)
  case atStart => exact ⟨l, false, rfl, rfl, Nat.le_refl _, rfl, by simp⟩
  case round =>
    obtain ⟨c, b, rfl, rfl, hcl, hdw, hst⟩ := hrel
    have HD := Lib.hid hdw
    have HS := Lib.hid hst
    clear hdw hst
    by_cases h42 : c.head? = some 42
    · obtain ⟨t, rfl⟩ : ∃ t, c = 42 :: t := by
        cases c with
        | nil => cases h42
        | cons x t => exact ⟨t, by simp at h42; rw [h42]⟩
      have i0 := at0 42 t
      have hx := ext_tail 42 t
      clear h42
      go_wp2
      go_round
      case rel => exact ⟨t, true, rfl, rfl, by simp at hcl; omega, by rw [← HD.out]; rfl, by rw [← HS.out]; simp⟩
      case measure => simp [strLen, ByteArray.size]
    · have hq : Hid (c = l.dropWhile (· == 42)) := by
        apply Lib.hid
        rw [← HD.out]
        cases c with
        | nil => rfl
        | cons x t => rw [List.dropWhile_cons_of_neg (by simpa using h42)]
      have hb : Hid (b = (l.head? == some 42)) := by
        apply Lib.hid
        rw [← HS.out]
        simp [h42]
      clear HD HS
      have Fin : Hid (∀ (k : Nat), scanEnd c false = k → ∀ w' : World, Below w.heap.size w w' → ScanPost l w (.returned (.tuple #[.bool b, S (c.take k), S (c.drop k)])) w') := by
        intro k hk w' hB
        unfold ScanPost chunkOf restOf
        rw [← hq.out, ← hb.out, hk]
        exact ⟨rfl, hB⟩
      have hcases : c = [] ∨ ∃ x t, c = x :: t ∧ x ≠ 42 := by
        cases c with
        | nil => exact .inl rfl
        | cons x t => exact .inr ⟨x, t, rfl, by simpa using h42⟩
      clear hq hb h42
      rcases hcases with rfl | ⟨x, t, rfl, hx42⟩
      · go_wp2
        refine wp_loop_rounds 1 ?_
        rw [rounds_succ]
        go_wp2
        go_ret3
        exact Fin.out 0 rfl w (Below.refl _ _)
      · have i0 := at0 x t
        have t42 := tneq x 42 42 rfl hx42
        go_wp2
        clear i0 t42 hx42
        generalize x :: t = q at *
        have hlen : (⟨q.toArray⟩ : ByteArray).size = q.length := by simp [ByteArray.size]
        go_loop [2, 5, 6] (fun st ir i => st = .bool b ∧ ScanRel2 q ir i) (fun _ _ i => q.length - (intOf i).toNat)
        case atStart => exact ⟨rfl, 0, false, Nat.zero_le _, rfl, rfl, by simp⟩
        case round =>
          obtain ⟨rfl, k, b', hk, rfl, rfl, hsc⟩ := hrel
          have HSC := Lib.hid hsc
          clear hsc
          by_cases hlt : k < q.length
          · obtain ⟨y, hy⟩ : ∃ y, q[k]? = some y := ⟨q[k], List.getElem?_eq_getElem hlt⟩
            have iK := atK q k y hy
            have HD := Lib.hid (drop_at hy)
            clear hy
            by_cases h92 : y = 92
            · have t92 := teq y 92 92 rfl h92
              by_cases hl2 : k + 1 < q.length
              · have HR : Hid (scanEnd q false = k + 2 + scanEnd (q.drop (k + 2)) b') := by
                  apply Lib.hid
                  have hd2 : q.drop (k + 1) = q[k + 1] :: q.drop (k + 2) := drop_at (List.getElem?_eq_getElem hl2)
                  rw [HSC.out, HD.out, h92, hd2, scan92]
                  omega
                clear h92 HSC HD
                go_wp2
                go_round
                case rel => exact ⟨rfl, k + 2, b', by omega, by go_num, rfl, HR.out⟩
                case measure => simp [intOf]; omega
              · have HR : Hid (scanEnd q false = k + 1 + scanEnd (q.drop (k + 1)) b') := by
                  apply Lib.hid
                  have hd2 : q.drop (k + 1) = [] := List.drop_eq_nil_of_le (by omega)
                  rw [HSC.out, HD.out, h92, hd2]
                  rfl
                clear h92 HSC HD
                go_wp2
                go_round
                case rel => exact ⟨rfl, k + 1, b', by omega, by go_num, rfl, HR.out⟩
                case measure => simp [intOf]; omega
            · have t92 := tneq y 92 92 rfl h92
              by_cases h91 : y = 91
              · have t91 := teq y 91 91 rfl h91
                have HR : Hid (scanEnd q false = k + 1 + scanEnd (q.drop (k + 1)) true) := by
                  apply Lib.hid
                  rw [HSC.out, HD.out, h91, scan91]
                  omega
                clear h91 HSC HD h92
                go_wp2
                go_round
                case rel => exact ⟨rfl, k + 1, true, by omega, by go_num, rfl, HR.out⟩
                case measure => simp [intOf]; omega
              · have t91 := tneq y 91 91 rfl h91
                by_cases h93 : y = 93
                · have t93 := teq y 93 93 rfl h93
                  have HR : Hid (scanEnd q false = k + 1 + scanEnd (q.drop (k + 1)) false) := by
                    apply Lib.hid
                    rw [HSC.out, HD.out, h93, scan93]
                    omega
                  clear h91 HSC HD h92 h93
                  go_wp2
                  go_round
                  case rel => exact ⟨rfl, k + 1, false, by omega, by go_num, rfl, HR.out⟩
                  case measure => simp [intOf]; omega
                · have t93 := tneq y 93 93 rfl h93
                  by_cases h42 : y = 42
                  · have t42 := teq y 42 42 rfl h42
                    cases b' with
                    | true =>
                      have HR : Hid (scanEnd q false = k + 1 + scanEnd (q.drop (k + 1)) true) := by
                        apply Lib.hid
                        rw [HSC.out, HD.out, h42, scan42, if_pos rfl]
                        omega
                      clear h91 HSC HD h92 h93 h42
                      go_wp2
                      go_round
                      case rel => exact ⟨rfl, k + 1, true, by omega, by go_num, rfl, HR.out⟩
                      case measure => simp [intOf]; omega
                    | false =>
                      have HR : Hid (scanEnd q false = k) := by
                        apply Lib.hid
                        rw [HSC.out, HD.out, h42, scan42, if_neg (by simp)]
                        rfl
                      have HT := Lib.hid (ext_take q k)
                      have HX := Lib.hid (ext_drop q k)
                      clear h91 HSC HD h92 h93 h42
                      go_wp2_with fail
                      go_quiet (fail)
                      go_wp2
                      go_ret3
                      show ScanPost l w (.returned (.tuple #[.bool b, .string (ByteArray.extract _ 0 k), .string (ByteArray.extract _ k _)])) _
                      rw [HT.out, HX.out]
                      exact Fin.out k HR.out _ (below_drewN (Below.refl _ _) _)
                  · have t42 := tneq y 42 42 rfl h42
                    have HR : Hid (scanEnd q false = k + 1 + scanEnd (q.drop (k + 1)) b') := by
                      apply Lib.hid
                      rw [HSC.out, HD.out, scanO y _ _ h92 h91 h93 h42]
                      omega
                    clear h91 HSC HD h92 h93 h42
                    go_wp2
                    go_round
                    case rel => exact ⟨rfl, k + 1, b', by omega, by go_num, rfl, HR.out⟩
                    case measure => simp [intOf]; omega
          · obtain rfl : k = q.length := by omega
            have HR : Hid (scanEnd q false = q.length) := by
              apply Lib.hid
              rw [HSC.out, List.drop_length]
              rfl
            clear HSC
            go_wp2
            go_ret3
            have := Fin.out q.length HR.out w (Below.refl _ _)
            rw [List.take_length, List.drop_length] at this
            exact this

end Go.Proofs.YtcoaoheakeodoaaDoor

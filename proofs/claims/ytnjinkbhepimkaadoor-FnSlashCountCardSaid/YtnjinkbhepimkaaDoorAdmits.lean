/-
  spec.Admits: its contract. Conditions: none beyond those of each theorem.
-/
import Derived.Test.YtnjinkbhepimkaaDoorTermR
import Derived.Test.YtnjinkbhepimkaaDoorGreedy
namespace Go.Proofs.YtnjinkbhepimkaaDoor
open Go.ChangeShapes Go.WideShapes Go.ChangeAt Go.RowKit

theorem inR_snoc (rs : List (Nat × Nat)) (r : Nat × Nat) (c : Nat) : inR (rs ++ [r]) c = (inR rs c || decide (r.1 ≤ c ∧ c ≤ r.2)) := by simp [inR]

def AdmRel (rs : List (Nat × Nat)) (c : Nat) (W : World) (b i : Value) (wr : World) : Prop :=
  ∃ (k : Nat), i = .int .i64 (k : Nat) ∧ k ≤ rs.length ∧ b = .bool (inR (rs.take k) c) ∧ W = wr

set_option maxHeartbeats 1000000 in
theorem admits_call (lo : Nat) (t : Tm) (rv : Value) (c : Nat) (w : World) (h : RgRd lo w rv t.rs) (hk : t.kind ≤ 100) (hc : c ≤ 2147483647) (hl : t.rs.length ≤ 100000000) (hr : ∀ r ∈ t.rs, r.1 ≤ 2147483647 ∧ r.2 ≤ 2147483647) :
    Calls Tryd.prog 23 #[.agg #[.int .i64 (t.kind : Nat), .int .i32 (t.chr : Nat), .bool t.neg, rv], .int .i32 (c : Nat)] w fun e w' => e = .returned (.bool (adm t c)) ∧ Below w.heap.size w w' := by
  obtain ⟨k, ch, n, rs⟩ := t
  simp only at h hk hl hr ⊢
  have HB := Lib.hid ((Below.refl w.heap.size w).alloc (Nat.le_refl _) (.cells #[.int .i64 (k : Nat), .int .i32 (ch : Nat), .bool n, rv] 38))
  have h2 := h.below HB.out
  obtain ⟨ra, rcap, rfl, _⟩ := h
  by_cases k1 : k = 1
  · subst k1
    have HF : Hid (adm ⟨1, ch, n, rs⟩ c = decide (c ≠ 47)) := Lib.hid rfl
    by_cases hc47 : c = 47
    · subst hc47
      clear h2 hr
      go_enter Tryd.func23, Tryd.ntmps23
      go_wp2
      go_ret
      exact ⟨by rw [HF.out]; rfl, HB.out⟩
    · have b47 : (((c : Nat) : Int) != 47) = true := by simp; omega
      have HF2 : Hid (adm ⟨1, ch, n, rs⟩ c = true) := Lib.hid (by rw [HF.out]; simpa using hc47)
      clear h2 hr hc47
      go_enter Tryd.func23, Tryd.ntmps23
      go_wp2
      go_ret
      exact ⟨by rw [HF2.out]; rfl, HB.out⟩
  · have e1 : (((k : Nat) : Int) == 1) = false := by simp; omega
    by_cases k3 : k = 3
    · subst k3
      have HF : Hid (adm ⟨3, ch, n, rs⟩ c = decide (c = ch)) := Lib.hid rfl
      by_cases hcc : c = ch
      · subst hcc
        clear h2 hr k1
        go_enter Tryd.func23, Tryd.ntmps23
        go_wp2
        go_ret
        exact ⟨by rw [HF.out]; simp, HB.out⟩
      · have b47 : (((c : Nat) : Int) == ((ch : Nat) : Int)) = false := by simp; omega
        have HF2 : Hid (adm ⟨3, ch, n, rs⟩ c = false) := Lib.hid (by rw [HF.out]; simpa using hcc)
        clear h2 hr hcc k1
        go_enter Tryd.func23, Tryd.ntmps23
        go_wp2
        go_ret
        exact ⟨by rw [HF2.out]; rfl, HB.out⟩
    · have e3 : (((k : Nat) : Int) == 3) = false := by simp; omega
      have HF : Hid (adm ⟨k, ch, n, rs⟩ c = (inR rs c != n)) := Lib.hid (by
        unfold adm
        rw [if_neg k1, if_neg k3])
      obtain ⟨a', cap', e', hcap, hcells⟩ := h2
      injection e' with x1 x2 x3
      subst x1
      subst x3
      have HC := Lib.hid hcells
      have HR := Lib.hid hr
      clear hcells hr x2 k1 k3
      go_enter Tryd.func23, Tryd.ntmps23
      go_wp2
      go_loopw [5, 6] (fun b i wr => AdmRel rs c (w.alloc (.cells #[.int .i64 (k : Nat), .int .i32 (ch : Nat), .bool n, .slice ra rs.length rcap] 38)) b i wr) (fun _ i _ => rs.length - (intOf i).toNat)
      case atStart => exact ⟨0, rfl, by omega, rfl, rfl⟩
      case round =>
        obtain ⟨j, rfl, hj, rfl, rfl⟩ := hrel
        by_cases hjl : j < rs.length
        · obtain ⟨r, hrj⟩ : ∃ r, rs[j]? = some r := ⟨_, List.getElem?_eq_getElem hjl⟩
          obtain ⟨g, o, rfl, hlo, hlt, c1, c2⟩ := HC.out j r hrj
          obtain ⟨r1, r2⟩ := r
          simp only at c1 c2
          have HT : Hid (inR (rs.take (j + 1)) c = (inR (rs.take j) c || decide (r1 ≤ c ∧ c ≤ r2))) := Lib.hid (by rw [List.take_add_one, hrj]; exact inR_snoc _ _ _)
          have hgn : g < w.heap.size + 1 := by simpa using hlt
          clear HC HR hrj hlt
          generalize inR (rs.take j) c = Y at *
          cases Y with
          | true =>
            go_wp2
            go_roundw
            case rel => exact ⟨j + 1, by go_num, by omega, by rw [HT.out]; rfl, rfl⟩
            case measure => simp [intOf]; omega
          | false =>
            by_cases q1 : r1 ≤ c
            · by_cases q2 : c ≤ r2
              · have HT2 : Hid (inR (rs.take (j + 1)) c = true) := Lib.hid (by rw [HT.out, decide_eq_true ⟨q1, q2⟩]; rfl)
                clear HT
                go_wp2
                go_roundw
                case rel => exact ⟨j + 1, by go_num, by omega, by rw [HT2.out], rfl⟩
                case measure => simp [intOf]; omega
              · have HT2 : Hid (inR (rs.take (j + 1)) c = false) := Lib.hid (by rw [HT.out, decide_eq_false (fun x => q2 x.2)]; rfl)
                clear HT
                go_wp2
                go_roundw
                case rel => exact ⟨j + 1, by go_num, by omega, by rw [HT2.out], rfl⟩
                case measure => simp [intOf]; omega
            · have HT2 : Hid (inR (rs.take (j + 1)) c = false) := Lib.hid (by rw [HT.out, decide_eq_false (fun x => q1 x.1)]; rfl)
              clear HT
              go_wp2
              go_roundw
              case rel => exact ⟨j + 1, by go_num, by omega, by rw [HT2.out], rfl⟩
              case measure => simp [intOf]; omega
        · obtain rfl : j = rs.length := by omega
          clear HC HR
          rw [List.take_length]
          generalize inR rs c = Y at *
          cases Y <;> cases n
          all_goals
            go_wp2
            go_ret
            exact ⟨by rw [HF.out]; rfl, HB.out⟩

end Go.Proofs.YtnjinkbhepimkaaDoor

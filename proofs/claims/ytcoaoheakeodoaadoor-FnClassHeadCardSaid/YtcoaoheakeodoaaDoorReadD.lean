/-
  spec.Valid, spec.WellFormed, spec.Settled, spec.Fails: contracts. Conditions: none beyond those of each theorem.
-/
import Derived.Test.YtcoaoheakeodoaaDoorReadC
import Derived.Test.YtcoaoheakeodoaaDoorEnv
namespace Go.Proofs.YtcoaoheakeodoaaDoor
open Go.ChangeShapes Go.WideShapes Go.ChangeAt Go.RowKit

def RR.isOk : RR → Bool
  | .good _ => true
  | .bad _ => false
def rdOk (p : Bs) : Bool := (readR (runes p)).isOk
def rdSet (p : Bs) : Bool := (readR (runes p)).settled
/-- spec.WellFormed. -/
def wfB (p : Bs) : Bool := Lib.validD p && rdOk p
/-- spec.Settled. -/
def stB (p : Bs) : Bool := Lib.validD p && rdSet p

theorem fld0 (a b c : Value) (w : World) : (Instr.field 29 (.agg #[a, b, c]) 0).run Tryd.prog w = .ok a w := by kernel_rfl
theorem fld1 (a b c : Value) (w : World) : (Instr.field 29 (.agg #[a, b, c]) 1).run Tryd.prog w = .ok b w := by kernel_rfl
theorem fld2 (a b c : Value) (w : World) : (Instr.field 29 (.agg #[a, b, c]) 2).run Tryd.prog w = .ok c w := by kernel_rfl

/-- What spec.Read returns, as a struct of three. -/
theorem read_three (l : Bs) (w : World) (hl : l.length ≤ 100000000) :
    Calls Tryd.prog 10 #[S l] w fun e w' => Below w.heap.size w w' ∧ ∃ va vn vc, e = .returned (.agg #[.slice va vn vc, .bool (rdOk l), .bool (rdSet l)]) ∧ (∀ ts, readR (runes l) = .good ts → vn = ts.length ∧ TmsRd w.heap.size w' (.slice va vn vc) ts) := by
  refine (read_call l w hl).mono ?_
  rintro e w' ⟨hb, ⟨s, h, rfl⟩ | ⟨ts, va, vc, h, rfl, ht⟩⟩
  · refine ⟨hb, none, 0, 0, ?_, fun ts h' => by rw [h] at h'; cases h'⟩
    unfold rdOk rdSet
    rw [h]
    rfl
  · refine ⟨hb, va, ts.length, vc, ?_, fun us h' => ?_⟩
    · unfold rdOk rdSet
      rw [h]
      rfl
    · rw [h] at h'
      injection h' with h'
      subst h'
      exact ⟨rfl, ht⟩

theorem readB (P : ByteArray) (l : Bs) (w : World) (hP : P.data.toList = l) (hl : l.length ≤ 100000000) :
    Calls Tryd.prog 10 #[.string P] w fun e w' => Below w.heap.size w w' ∧ ∃ va vn vc, e = .returned (.agg #[.slice va vn vc, .bool (rdOk l), .bool (rdSet l)]) ∧ (∀ ts, readR (runes l) = .good ts → vn = ts.length ∧ TmsRd w.heap.size w' (.slice va vn vc) ts) := by
  rw [str_eq hP]
  exact read_three l w hl

theorem validStr (ae : Addr) (P : ByteArray) (p : Bs) (w : World) (hE : Env ae w) (hP : P.data.toList = p) (hl : p.length ≤ 100000000) :
    Calls Tryd.prog 27 #[.string P] w fun e w' => e = .returned (.bool (Lib.validD p)) ∧ Below w.heap.size w w' := by
  have h := Tryd.utf8_ValidString P w (by rw [ba_len, hP]; omega) hE.1
  rw [hP] at h
  exact h

theorem validB (ae : Addr) (P : ByteArray) (p : Bs) (w : World) (hE : Env ae w) (hP : P.data.toList = p) (hl : p.length ≤ 100000000) :
    Calls Tryd.prog 9 #[.string P] w fun e w' => e = .returned (.bool (Lib.validD p)) ∧ Below w.heap.size w w' := by
  have hcall := Lib.hid (validStr ae P p w hE hP hl)
  clear hE hP
  go_enter Tryd.func9, Tryd.ntmps9
  go_wp2_with fail
  refine hcall.out.mono ?_
  rintro e w1 ⟨rfl, hb⟩
  have HB := Lib.hid hb
  clear hb hcall
  generalize hV : Lib.validD p = V
  have HV := Lib.hid hV
  clear hV
  go_wp2
  go_ret
  exact ⟨by rw [HV.out]; rfl, HB.out⟩

theorem wellFormedB (ae : Addr) (P : ByteArray) (p : Bs) (w : World) (hE : Env ae w) (hP : P.data.toList = p) (hl : p.length ≤ 100000000) :
    Calls Tryd.prog 8 #[.string P] w fun e w' => e = .returned (.bool (wfB p)) ∧ Below w.heap.size w w' := by
  have hcall := Lib.hid (validStr ae P p w hE hP hl)
  have hread := Lib.hid (fun w' => readB P p w' hP hl)
  have HF : Hid (wfB p = (Lib.validD p && rdOk p)) := Lib.hid rfl
  clear hE hP
  have hfd := fld1
  go_enter Tryd.func8, Tryd.ntmps8
  go_wp2_with fail
  refine hcall.out.mono ?_
  rintro e w1 ⟨rfl, hb⟩
  have HB := Lib.hid hb
  clear hb hcall
  generalize Lib.validD p = V at *
  cases V with
  | false =>
    clear hread
    go_wp2
    go_ret
    exact ⟨by rw [HF.out]; rfl, HB.out⟩
  | true =>
    go_wp2_with fail
    refine (hread.out _).mono ?_
    rintro e w2 ⟨hb, va, vn, vc, rfl, -⟩
    have HB2 := Lib.hid (HB.out.trans (hb.mono HB.out.size))
    clear hb hread HB
    generalize rdOk p = B at *
    generalize rdSet p = B2 at *
    go_wp2
    go_ret
    exact ⟨by rw [HF.out]; rfl, HB2.out⟩



end Go.Proofs.YtcoaoheakeodoaaDoor

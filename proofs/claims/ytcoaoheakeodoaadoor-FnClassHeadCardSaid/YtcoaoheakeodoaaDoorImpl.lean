/-
  impl.Match, impl.Fails, laws.yes, laws.alike: contracts. Conditions: none beyond those of each theorem.
-/
import Derived.Test.YtcoaoheakeodoaaDoorMatchZ
import Derived.Test.YtcoaoheakeodoaaDoorIs
namespace Go.Proofs.YtcoaoheakeodoaaDoor
open Go.ChangeShapes Go.WideShapes Go.ChangeAt Go.RowKit

/-- Does the code's match say 'true'? -/
def mm (p s : Bs) : Bool := (matchF p s).getD false
/-- Is the pattern malformed? -/
def bb (p : Bs) : Bool := (parse false p).isNone
theorem matchF_none (p s : Bs) : (matchF p s).isNone = bb p := by
  rw [matchF_eq]
  unfold bb
  cases parse false p <;> rfl
theorem mm_eq (p s : Bs) : mm p s = (match parse false p with | none => false | some ts => gm ts s) := by
  unfold mm
  rw [matchF_eq]
  cases parse false p <;> rfl
theorem mm_bad {p : Bs} (h : bb p = true) (s : Bs) : mm p s = false := by
  rw [mm_eq]
  unfold bb at h
  cases hp : parse false p with
  | none => rfl
  | some ts => rw [hp] at h; cases h

/-- What path.Match returns, in two arms. -/
theorem match_two (a : Addr) (p s : List UInt8) (w : World) (hE : Env a w) (hp : p.length ≤ 1000000000) (hs : s.length ≤ 1000000000) :
    Calls Tryd.prog 45 #[S p, S s] w fun e w' => Below w.heap.size w w' ∧ ((bb p = true ∧ e = .returned (.tuple #[.bool false, errV a])) ∨ (bb p = false ∧ e = .returned (.tuple #[.bool (mm p s), .nilIface]))) := by
  refine (match_call a p s w hE hp hs).mono ?_
  rintro e w' ⟨hB, h1, h2⟩
  refine ⟨hB, ?_⟩
  have := matchF_none p s
  cases hm : matchF p s with
  | none =>
    rw [hm] at this
    exact .inl ⟨this.symm, h2 hm⟩
  | some m =>
    rw [hm] at this
    refine .inr ⟨this.symm, ?_⟩
    unfold mm
    rw [hm]
    exact h1 m hm

theorem implMatch (a : Addr) (p s : List UInt8) (w : World) (hE : Env a w) (hp : p.length ≤ 1000000000) (hs : s.length ≤ 1000000000) :
    Calls Tryd.prog 26 #[S p, S s] w fun e w' => e = .returned (.tuple #[.bool (mm p s), .bool (bb p)]) ∧ Below w.heap.size w w' := by
  have hcall := Lib.hid (match_two a p s w hE hp hs)
  have HE := Lib.hid hE
  clear hE
  go_enter Tryd.func26, Tryd.ntmps26
  go_wp2_with fail
  refine hcall.out.mono ?_
  rintro e w1 ⟨hb, hcase⟩
  have hc1 := (HE.out.on hb).2
  have HB := Lib.hid hb
  clear hb hcall HE
  rcases hcase with ⟨hbad, rfl⟩ | ⟨hgood, rfl⟩
  · have HX := Lib.hid hbad
    clear hbad
    have hcall := Lib.hid (is_same a w1)
    go_wp2_with fail
    refine hcall.out.mono ?_
    rintro e w2 ⟨rfl, rfl⟩
    go_wp2
    go_ret2
    exact ⟨by rw [HX.out, mm_bad HX.out]; rfl, HB.out⟩
  · have HX := Lib.hid hgood
    clear hgood
    have hcall := Lib.hid (is_nil a w1)
    go_wp2_with fail
    refine hcall.out.mono ?_
    rintro e w2 ⟨rfl, rfl⟩
    go_wp2
    go_ret2
    exact ⟨by rw [HX.out]; rfl, HB.out⟩


theorem yes_call (a : Addr) (p s : List UInt8) (w : World) (hE : Env a w) (hp : p.length ≤ 1000000000) (hs : s.length ≤ 1000000000) :
    Calls Tryd.prog 7 #[S p, S s] w fun e w' => e = .returned (.bool (mm p s)) ∧ Below w.heap.size w w' := by
  obtain ⟨M, hM⟩ : ∃ M, M = mm p s := ⟨_, rfl⟩
  obtain ⟨B, hB⟩ : ∃ B, B = bb p := ⟨_, rfl⟩
  have hcall : Hid (Calls Tryd.prog 26 #[S p, S s] w fun e w' => e = .returned (.tuple #[.bool M, .bool B]) ∧ Below w.heap.size w w') := by
    apply Lib.hid
    rw [hM, hB]
    exact implMatch a p s w hE hp hs
  have HX : Hid (B = true → M = false) := by
    intro h
    rw [hM]
    exact mm_bad (by rw [← hB]; exact h) s
  have HM := Lib.hid hM
  clear hE hM hB
  go_enter Tryd.func7, Tryd.ntmps7
  go_wp2_with fail
  refine hcall.out.mono ?_
  rintro e w1 ⟨rfl, hb⟩
  have HB := Lib.hid hb
  clear hb hcall
  cases M with
  | false =>
    go_wp2
    go_ret
    exact ⟨by rw [← HM.out]; rfl, HB.out⟩
  | true =>
    cases B with
    | false =>
      go_wp2
      go_ret
      exact ⟨by rw [← HM.out]; rfl, HB.out⟩
    | true => exact absurd (HX.out rfl) (by decide)

end Go.Proofs.YtcoaoheakeodoaaDoor

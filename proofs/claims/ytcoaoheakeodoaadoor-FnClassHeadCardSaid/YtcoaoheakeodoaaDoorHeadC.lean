/-
  Helpers for FnClassHead: the conversion to runes in every world; the second cut. Conditions: none beyond those of each theorem.
-/
import Derived.Test.YtcoaoheakeodoaaDoorLawG
import Derived.Test.YtcoaoheakeodoaaDoorDrawM
namespace Go.Proofs.YtcoaoheakeodoaaDoor
open Go.ChangeShapes Go.WideShapes Go.ChangeAt Go.RowKit

/-- The second cut of a text that is not empty: behind its first character. -/
theorem cutsL_one {l : Bs} (h : l ≠ []) : (cutsL l)[1]? = some (dec l).2 := by
  unfold cutsL
  rw [cutsB_ne 0 l h, Nat.zero_add]
  rfl
/-- The conversion of a text to runes, in every world at once. -/
theorem conv_all (l : Bs) (hl : l.length ≤ 1000000000) (hne : l ≠ []) : ∃ (cp : World → Nat) (F : World → World), (∀ w : World, (convert 9 36 (S l)).run Tryd.prog w = .ok (.slice (some ⟨w.heap.size, 0, none⟩) (runes l).length (cp w)) (F w)) ∧
    (∀ w : World, (F w).cell? ⟨w.heap.size, 0, none⟩ = some (.int .i32 ((dec l).1 : Nat))) ∧ ∀ w : World, Below w.heap.size w (F w) := by
  have key : ∀ w : World, ∃ x : Nat × World, (convert 9 36 (S l)).run Tryd.prog w = .ok (.slice (some ⟨w.heap.size, 0, none⟩) (runes l).length x.1) x.2 ∧ x.2.cell? ⟨w.heap.size, 0, none⟩ = some (.int .i32 ((dec l).1 : Nat)) ∧ Below w.heap.size w x.2 := by
    intro w
    obtain ⟨cp, W1, hcv, hra, hg, _⟩ := conv_runes w l hl
    refine ⟨(cp, W1), hcv, ?_, hg.os, hg.tape, hg.output, hg.size, fun k hk => hg.block k hk (by simp)⟩
    have h0 : (runes l)[0]? = some (dec l).1 := by rw [runes_ne _ hne]; rfl
    obtain ⟨g, o, e, _, hc⟩ := hra.2.2 0 _ h0
    have e1 : w.heap.size = g := congrArg Addr.block (Option.some.inj e)
    have e2 : 0 = o := congrArg Addr.off (Option.some.inj e)
    subst e2
    rw [← e1, Nat.zero_add] at hc
    exact hc
  refine ⟨fun w => (key w).choose.1, fun w => (key w).choose.2, fun w => (key w).choose_spec.1, fun w => (key w).choose_spec.2.1, fun w => (key w).choose_spec.2.2⟩
theorem cell_lt {W : World} {g : Nat} {v : Value} (h : W.cell? ⟨g, 0, none⟩ = some v) : g < W.heap.size := by
  by_cases hl : g < W.heap.size
  · exact hl
  · have hn : W.heap[g]? = none := Array.getElem?_eq_none (by omega)
    simp [World.cell?, hn] at h
/-- What a call of the region keeps. -/
def Keep (ae : Addr) (wi W w' : World) (R : Nat) : Prop := Env ae w' ∧ Below wi.heap.size wi w' ∧ ∀ g : Nat, W.cell? ⟨g, 0, none⟩ = some (.int .i32 (R : Nat)) → w'.cell? ⟨g, 0, none⟩ = some (.int .i32 (R : Nat))
theorem Keep.of {ae : Addr} {wi W w' : World} {R : Nat} (hE : Env ae W) (hW : Below wi.heap.size wi W) (h : Below W.heap.size W w') : Keep ae wi W w' R :=
  ⟨hE.on h, hW.trans (h.mono hW.size), fun g hg => (h.cell (p := ⟨g, 0, none⟩) (cell_lt hg)).trans hg⟩
end Go.Proofs.YtcoaoheakeodoaaDoor

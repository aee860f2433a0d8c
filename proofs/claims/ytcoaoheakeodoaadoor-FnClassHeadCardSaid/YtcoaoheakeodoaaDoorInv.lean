/-
  What the calls of a region that draws its order keep. Conditions: none beyond those of each theorem.
-/
import Derived.Test.YtcoaoheakeodoaaDoorLawT
import Derived.Test.YtcoaoheakeodoaaDoorLate
import Derived.Deep.RegionWith
import Derived.Deep.RegionHeld3
import Derived.Deep.DeepCutAuto
namespace Go.Proofs.YtcoaoheakeodoaaDoor
open Go.ChangeShapes Go.WideShapes Go.ChangeAt Go.RowKit

/-- The package variables, and that nothing old has been changed. -/
def Inv (ae : Addr) (w W : World) : Prop := Env ae W ∧ Below w.heap.size w W
theorem Inv.drew {ae : Addr} {w W : World} (h : Inv ae w W) : Inv ae w W.drew := ⟨h.1, ⟨h.2.os, h.2.tape, h.2.output, h.2.size, h.2.block⟩⟩
theorem Inv.on {ae : Addr} {w W W' : World} (h : Inv ae w W) (hb : Below W.heap.size W W') : Inv ae w W' := ⟨h.1.on hb, h.2.trans (hb.mono h.2.size)⟩
theorem yesI (ae : Addr) (w : World) (p n : Bs) (hp : p.length ≤ 1000000000) (hn : n.length ≤ 1000000000) (P N : ByteArray) (W : World) (hP : P.data.toList = p) (hN : N.data.toList = n) (hI : Inv ae w W) :
    Calls Tryd.prog 7 #[.string P, .string N] W fun e w' => e = .returned (.bool (mm p n)) ∧ Inv ae w w' ∧ Below W.heap.size W w' :=
  (yesB ae P N p n W hI.1 hP hN hp hn).mono fun _ _ h => ⟨h.1, hI.on h.2, h.2⟩
theorem cutsI (ae : Addr) (w : World) (l : Bs) (hl : l.length ≤ 100000000) (W : World) (hI : Inv ae w W) :
    Calls Tryd.prog 13 #[S l] W fun e w' => (∃ g cap, e = .returned (.slice (some ⟨g, 0, none⟩) (cutsL l).length cap) ∧ g < w'.heap.size ∧ ∀ (j c : Nat), (cutsL l)[j]? = some c → w'.cell? ⟨g, j, none⟩ = some (.int .i64 (c : Nat))) ∧ Inv ae w w' ∧ Below W.heap.size W w' :=
  (cuts_call ae l W hI.1 hl).mono fun _ _ h => by
    obtain ⟨v, he, ⟨g, cap, rfl, _, _, hg, hc⟩, hb⟩ := h
    exact ⟨⟨g, cap, he, hg, hc⟩, hI.on hb, hb⟩

end Go.Proofs.YtcoaoheakeodoaaDoor

/-
  What the walks know of the package variables: unicode/utf8's two tables and path.ErrBadPattern; what a world keeps of it. Conditions: none beyond those of each theorem.
-/
import Derived.Test.YtcoaoheakeodoaaDoorBase
import Derived.Test.YtcoaoheakeodoaaDoorShelf
import Derived.Test.YtcoaoheakeodoaaDoorMatchG
namespace Go.Proofs.YtcoaoheakeodoaaDoor
open Go.ChangeShapes Go.WideShapes Go.ChangeAt Go.RowKit

/-- The value of path.ErrBadPattern. -/
abbrev errV (a : Addr) : Value := .iface 134 (.pointer (some a))

/-- The package variables as the program's text lays them. -/
def Env (a : Addr) (w : World) : Prop := Lib.Utf8Tabs 1 2 w ∧ w.cell? ⟨0, 0, none⟩ = some (errV a)

theorem tabs_lt {w : World} (h : Lib.Utf8Tabs 1 2 w) : 1 < w.heap.size ∧ 2 < w.heap.size :=
  ⟨World.block_lt_of_cell? w _ (h.1 0 (by omega)), World.block_lt_of_cell? w _ (h.2 0 (by omega)).1⟩
theorem tabs_below {B : Nat} {w w' : World} (h : Lib.Utf8Tabs 1 2 w) (hb : Below B w w') (h1 : 1 < B) (h2 : 2 < B) : Lib.Utf8Tabs 1 2 w' :=
  ⟨fun c hc => (hb.cell (p := ⟨1, c, none⟩) h1).trans (h.1 c hc), fun i hi => ⟨(hb.cell (p := ⟨2, 2 * i, none⟩) h2).trans (h.2 i hi).1, (hb.cell (p := ⟨2, 2 * i + 1, none⟩) h2).trans (h.2 i hi).2⟩⟩

theorem Env.lt {a : Addr} {w : World} (h : Env a w) : 1 < w.heap.size ∧ 2 < w.heap.size ∧ 0 < w.heap.size :=
  ⟨(tabs_lt h.1).1, (tabs_lt h.1).2, World.block_lt_of_cell? w _ h.2⟩
theorem Env.below {a : Addr} {B : Nat} {w w' : World} (h : Env a w) (hb : Below B w w') (h1 : 1 < B) (h2 : 2 < B) (h3 : 0 < B) : Env a w' :=
  ⟨tabs_below h.1 hb h1 h2, (hb.cell (p := ⟨0, 0, none⟩) h3).trans h.2⟩
theorem Env.on {a : Addr} {w w' : World} (h : Env a w) (hb : Below w.heap.size w w') : Env a w' := h.below hb h.lt.1 h.lt.2.1 h.lt.2.2
/-- Of what a world keeps of an elder one that had the variables. -/
theorem Env.from {a : Addr} {w0 w w' : World} (h0 : Env a w0) (h : Env a w) (hb : Below w0.heap.size w w') : Env a w' := h.below hb h0.lt.1 h0.lt.2.1 h0.lt.2.2
theorem Env.alloc {a : Addr} {w : World} (h : Env a w) (o : Obj) : Env a (w.alloc o) := h.on ((Below.refl _ w).alloc (Nat.le_refl _) o)

theorem dec_go (l : Bs) : Lib.decodeGo ⟨l.toArray⟩ = dec l := by
  unfold Lib.decodeGo dec
  have e : ((⟨l.toArray⟩ : ByteArray).size = 0) ↔ l = [] := by
    show l.toArray.size = 0 ↔ _
    simp
  by_cases h : l = []
  · rw [if_pos h, if_pos (e.2 h)]
  · rw [if_neg h, if_neg (fun x => h (e.1 x))]
    rfl

theorem decodeL_call (l : List UInt8) (w : World) (hT : Lib.Utf8Tabs 1 2 w) :
    Calls Tryd.prog 32 #[S l] w fun e w' => e = .returned (.tuple #[.int .i32 ((dec l).1 : Nat), .int .i64 ((dec l).2 : Nat)]) ∧ Below w.heap.size w w' := by
  have h := Tryd.utf8_DecodeRuneInString ⟨l.toArray⟩ w hT
  rw [dec_go] at h
  exact h

end Go.Proofs.YtcoaoheakeodoaaDoor

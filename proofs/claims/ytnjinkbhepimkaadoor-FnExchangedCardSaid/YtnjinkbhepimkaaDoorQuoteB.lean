/-
  spec.QuoteBytes: its contract. Conditions: none beyond those of each theorem.
-/
import Derived.Test.YtnjinkbhepimkaaDoorDrawC
import Derived.Test.YtnjinkbhepimkaaDoorMatchW
namespace Go.Proofs.YtnjinkbhepimkaaDoor
open Go.ChangeShapes Go.WideShapes Go.ChangeAt Go.RowKit

/-- A slice of bytes of the call's own. -/
def Byts (B : Nat) (w : World) (v : Value) (bs : List UInt8) : Prop := w.ownsRow B 5 1 v bs.length (bs.map fun b => .int .u8 (b.toNat : Int)) ∧ v ≠ .slice none 0 0

theorem infoU8 : (Tryd.prog.info? 5).map (fun i => (i.zero, i.size, i.bytes)) = some (some (.int .u8 0), 1, 1) := by kernel_rfl

theorem Byts.conv {B : Nat} {w : World} {v : Value} {bs : List UInt8} (h : Byts B w v bs) : (convert 22 9 v).run Tryd.prog w = .ok (S bs) w := by
  obtain ⟨h1, h2⟩ := h
  have hcell := fun g hg => h1.cells (g := g) hg
  obtain ⟨_, h3 | ⟨g, cap, cur, e1, e2, e3, e4, e5, e6, e7⟩⟩ := h1
  · exact absurd h3.1 h2
  · subst e1
    rw [run_convert_bytes_string w 22 9 5 _ _ _ Tryd.underlying22 Tryd.underlying5 Tryd.underlying9]
    rw [run_bytesToString w ⟨g, 0, none⟩ bs.length cap (bs.map fun b => (b.toNat : Int)) ?_]
    · rw [foldl_push_bytes]
      congr 2
      show (⟨ByteArray.empty.data ++ _⟩ : ByteArray) = ⟨bs.toArray⟩
      have e0 : ByteArray.empty.data = #[] := rfl
      rw [e0, Array.empty_append]
      congr 2
      rw [List.map_map]
      conv => rhs; rw [← List.map_id bs]
      apply List.map_congr_left
      intro b _
      simp
    · have := run_loadCells_list (P := Tryd.prog) w ⟨g, 0, none⟩ (bs.map fun b => Value.int .u8 (b.toNat : Int)) (fun j u hj => hcell g rfl j u hj)
      rw [List.length_map] at this
      rw [this, List.map_map]
      rfl

theorem two_cells (w : World) (u v : Value) (t : TypeId) : ∀ (j : Nat) (x : Value), [u, v][j]? = some x → (w.alloc (.cells #[u, v] t)).cell? ((⟨w.heap.size, 0, none⟩ : Addr).add j) = some x := by
  intro j x hj
  match j, hj with
  | 0, hj => simp at hj; subst hj; simp [Addr.add]
  | 1, hj => simp at hj; subst hj; simp [Addr.add]

def qb (l : List UInt8) : List UInt8 := l.flatMap fun b => [92, b]
theorem qb_len (l : List UInt8) : (qb l).length = 2 * l.length := by
  induction l with
  | nil => rfl
  | cons b l ih => simp [qb] at ih ⊢; omega
theorem qb_snoc (l : List UInt8) (b : UInt8) : qb (l ++ [b]) = qb l ++ [92, b] := by simp [qb]

def QbRel (l : List UInt8) (w : World) (v i : Value) (wr : World) : Prop := ∃ k : Nat, k ≤ l.length ∧ i = .int .i64 k ∧ Byts w.heap.size wr v (qb (l.take k)) ∧ Below w.heap.size w wr


end Go.Proofs.YtnjinkbhepimkaaDoor

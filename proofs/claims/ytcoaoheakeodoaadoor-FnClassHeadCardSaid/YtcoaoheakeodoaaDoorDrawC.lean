/-
  DrawPath and its namesakes: contracts. Conditions: none beyond those of each theorem.
-/
import Derived.Test.YtcoaoheakeodoaaDoorDrawB
namespace Go.Proofs.YtcoaoheakeodoaaDoor
open Go.ChangeShapes Go.WideShapes Go.ChangeAt Go.RowKit

/-- A string of at most so many bytes; nothing that was there has changed. -/
def StrPost (n : Nat) (w : World) (e : Ending) (w' : World) : Prop := ∃ s : ByteArray, e = .returned (.string s) ∧ s.size ≤ n ∧ Below w.heap.size w w'

/-- The same, the string as a list of bytes. -/
def ListPost (n : Nat) (w : World) (e : Ending) (w' : World) : Prop := ∃ l : List UInt8, e = .returned (.string ⟨l.toArray⟩) ∧ l.length ≤ n ∧ Below w.heap.size w w'
theorem StrPost.list {n : Nat} {w w' : World} {e : Ending} (h : StrPost n w e w') : ListPost n w e w' := by
  obtain ⟨⟨⟨l⟩⟩, rfl, h2, h3⟩ := h
  exact ⟨l, rfl, h2, h3⟩

/-- A table of strings in a block. -/
def TabAt (w : World) (B n m : Nat) : Prop := B < w.heap.size ∧ ∀ i, i < n → ∃ s : ByteArray, w.cell? ⟨B, i, none⟩ = some (.string s) ∧ s.size ≤ m

theorem TabAt.grown {w w' : World} {B n m : Nat} {r : Option Nat} (h : TabAt w B n m) (hg : w.grownBy w' r) (hr : r ≠ some B) : TabAt w' B n m :=
  ⟨Nat.lt_of_lt_of_le h.1 hg.size, fun i hi => by
    obtain ⟨s, h1, h2⟩ := h.2 i hi
    exact ⟨s, hg.cell h1 (fun e => hr e.symm), h2⟩⟩

theorem TabAt.new (w : World) (t : TypeId) (ss : List ByteArray) (m : Nat) (hm : ∀ s ∈ ss, s.size ≤ m) : TabAt (w.alloc (.cells (ss.map Value.string).toArray t)) w.heap.size ss.length m :=
  ⟨by simp, fun i hi => ⟨ss[i], by
    unfold World.cell?
    rw [heap_alloc_new]
    simp [hi], hm _ (List.getElem_mem hi)⟩⟩

theorem Rd.grown {base : Nat} {w w' : World} {B : Nat} {m : Int} {r : Option Nat} (h : Rd base w B m) (hg : w.grownBy w' r) (hr : ∀ k, r = some k → base ≤ k ∧ k ≠ B) : Rd base w' B m := by
  obtain ⟨a, len, cap, zs, p, h1, h2, h3, h4, h5, h6, h7⟩ := h
  refine ⟨a, len, cap, zs, p, h1, h2, h3, h4.grown hg (fun x hx hc e => ?_), ?_, h6, h7⟩
  · have := h2 x hx hc
    have := (hr _ e.symm).1
    omega
  · rw [hg.block B (lt_of_block h5) (fun e => (hr _ e.symm).2 rfl)]
    exact h5

theorem Rd.new (w : World) (a : Option Addr) (len cap : Nat) (zs : List Int) (h : IsRow .u8 w a len cap zs) (hlen : len ≤ 1048576) :
    Rd w.heap.size (w.alloc (.cells #[.slice a len cap, .int .i64 0] 49)) w.heap.size 0 :=
  ⟨a, len, cap, zs, 0, Nat.le_refl _, h.blk, hlen, h.grown (World.grownBy_alloc w _ none) (fun _ _ _ e => by cases e), heap_alloc_new w _, by omega, by omega⟩

theorem conv_row1 {w : World} {a : Option Addr} {len cap : Nat} {zs : List Int} (h : IsRow .u8 w a len cap zs) (h1 : 1 ≤ len) : ∃ x, a = some x ∧ len ≤ cap ∧
    ((cap = 1 ∧ ∃ s : ByteArray, s.size = len - 1 ∧ (convert 22 9 (.slice (some x) (len - 1) (cap - 1))).run Tryd.prog w = .ok (.string s) w) ∨
     (cap ≠ 1 ∧ ∃ s : ByteArray, s.size = len - 1 ∧ (convert 22 9 (.slice (some ⟨x.block, x.off + 1, none⟩) (len - 1) (cap - 1))).run Tryd.prog w = .ok (.string s) w)) := by
  rcases h with ⟨_, rfl, _⟩ | ⟨x, rfl, hl, hm, hz, hc, hw⟩
  · omega
  · refine ⟨x, rfl, hl, ?_⟩
    have h : IsRow .u8 w (some x) len cap zs := .inr ⟨x, rfl, hl, hm, hz, hc, hw⟩
    by_cases hc1 : cap = 1
    · left
      obtain rfl : cap = 1 := hc1
      obtain rfl : len = 1 := by omega
      obtain ⟨s, hs, hcv⟩ := conv_row (w := w) (a := some x) (len := 0) (cap := 0) (zs := []) IsRow.none_left
      exact ⟨rfl, s, hs, hcv w (fun _ => rfl)⟩
    · right
      obtain ⟨s, hs, hcv⟩ := conv_row (h.part' 1 (len - 1) (by omega) (by omega))
      exact ⟨hc1, s, hs, hcv w (fun _ => rfl)⟩








end Go.Proofs.YtcoaoheakeodoaaDoor

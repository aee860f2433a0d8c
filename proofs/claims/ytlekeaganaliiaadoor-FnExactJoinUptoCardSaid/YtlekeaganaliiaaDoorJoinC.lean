/-
  Join over a slice of the call's own, and lists of strings as lists of bytes: contracts. Conditions: none beyond those of each theorem.
-/
import Derived.Test.YtlekeaganaliiaaDoorPathC
import Derived.Test.YtlekeaganaliiaaDoorPathT
import Derived.Test.YtlekeaganaliiaaDoorDrawD
namespace Go.Proofs.YtlekeaganaliiaaDoor
open Go.ChangeShapes Go.WideShapes Go.ChangeAt Go.RowKit

abbrev mk (l : List UInt8) : ByteArray := ⟨l.toArray⟩

theorem map_mk (xs : List (List UInt8)) : (xs.map mk).map Value.string = xs.map fun l => S l := by rw [List.map_map]; rfl

/-- A slice of strings of the call's own, its strings as lists of bytes. -/
def Lists (B : Nat) (w : World) (v : Value) (xs : List (List UInt8)) : Prop := Strs B w v (xs.map mk)
theorem Strs.lists {B : Nat} {w : World} {v : Value} {ss : List ByteArray} (h : Strs B w v ss) : ∃ xs, Lists B w v xs ∧ Lib.Pa.lens xs + xs.length = tot ss := by
  refine ⟨ss.map (·.data.toList), ?_, ?_⟩
  · unfold Lists
    rw [List.map_map]
    have : (mk ∘ fun s : ByteArray => s.data.toList) = id := by funext s; rfl
    rw [this, List.map_id]
    exact h
  · unfold Lib.Pa.lens tot
    rw [List.map_map, List.length_map]
    congr 2

theorem Lists.shape {B : Nat} {w : World} {v : Value} {xs : List (List UInt8)} (h : Lists B w v xs) : ∃ g cap, v = .slice (some ⟨g, 0, none⟩) xs.length cap ∧ B ≤ g ∧ g < w.heap.size ∧ xs.length ≤ cap ∧ cap ≤ maxLen ∧
    ∀ (j : Nat) x, xs[j]? = some x → w.cell? ⟨g, j, none⟩ = some (S x) := by
  obtain ⟨g, cap, e1, e2, e3, e4, e5, e6⟩ := Strs.shape h
  rw [List.length_map] at e1 e4
  exact ⟨g, cap, e1, e2, e3, e4, e5, fun j x hj => e6 j (mk x) (by rw [List.getElem?_map, hj]; rfl)⟩

theorem Lists.kept {B : Nat} {w w' : World} {v : Value} {xs : List (List UInt8)} {r : Option Nat} (h : Lists B w v xs) (hg : w.grownBy w' r) (hr : ∀ k, v.ownBlock = some k → r ≠ some k) : Lists B w' v xs := Strs.kept h hg hr
theorem Lists.blk {B : Nat} {w : World} {v : Value} {xs : List (List UInt8)} (h : Lists B w v xs) : ∀ k, v.ownBlock = some k → B ≤ k ∧ k < w.heap.size := Strs.blk h
theorem Lists.below {B C : Nat} {w w' : World} {v : Value} {xs : List (List UInt8)} (h : Lists B w v xs) (hb : Below C w w') (hC : ∀ k, v.ownBlock = some k → k < C) : Lists B w' v xs := by
  obtain ⟨⟨h1, h2⟩, h3⟩ := h
  refine ⟨⟨h1, ?_⟩, h3⟩
  rcases h2 with h2 | ⟨g, cap, cur, e1, e2, e3, r⟩
  · exact .inl h2
  · subst e1
    exact .inr ⟨g, cap, cur, rfl, e2, by rw [hb.block g (hC g rfl)]; exact e3, r⟩
theorem Lists.own {B : Nat} {w : World} {v : Value} {xs : List (List UInt8)} (h : Lists B w v xs) : w.ownsRow B 9 1 v xs.length (xs.map fun l => S l) := by
  have := h.1
  rw [List.length_map, map_mk] at this
  exact this
theorem Lists.of {B : Nat} {w : World} {v : Value} {n : Nat} {xs : List (List UInt8)} {cs : List Value} (h : w.ownsRow B 9 1 v n cs) (hn : ¬v = .slice none 0 0) (e : xs.length = n) (ec : xs.map (fun l => S l) = cs) : Lists B w v xs := by
  subst e
  subst ec
  exact ⟨by rw [List.length_map, map_mk]; exact h, hn⟩
theorem Lists.made (w : World) (B k : Nat) (hk : w.heap.size = k) (hB : B ≤ k) (xs : List (List UInt8)) (hx : xs.length ≤ 100) : Lists B (w.alloc (.cells (xs.map fun l => S l).toArray 9)) (.slice (some ⟨k, 0, none⟩) xs.length xs.length) xs := by
  subst hk
  refine ⟨⟨by simp, .inr ⟨w.heap.size, xs.length, (xs.map fun l => S l).toArray, by simp, hB, heap_alloc_new w _, by simp, by unfold maxLen; omega, by simp, by rw [map_mk]; simp; exact List.take_of_length_le (by simp)⟩⟩, by simp⟩

theorem Lists.cells {B : Nat} {w : World} {v : Value} {xs : List (List UInt8)} (h : Lists B w v xs) {g cap : Nat} (hv : v = .slice (some ⟨g, 0, none⟩) xs.length cap) : ∀ (j : Nat) u, (xs.map fun l => S l)[j]? = some u → w.cell? ((⟨g, 0, none⟩ : Addr).add j) = some u := by
  subst hv
  exact h.own.cells rfl

theorem all_one (xs : List (List UInt8)) : ∀ u ∈ (xs.map fun l => S l), u.oneCell' = true := by
  intro u hu
  obtain ⟨x, _, rfl⟩ := List.mem_map.1 hu
  rfl

theorem joinOwn (B : Nat) (v : Value) (xs : List (List UInt8)) (w : World) (h : Lists B w v xs) (hlen : Lib.Pa.lens xs + xs.length ≤ 281474976710656) :
    Calls Tryd.prog 27 #[v] w fun e w' => e = .returned (S (Lib.Pa.join xs)) ∧ Below w.heap.size w w' := by
  obtain ⟨g, cap, rfl, _, hg, _, _, hc⟩ := h.shape
  exact implJoin g 0 cap xs.length xs w rfl (fun j x hj => by rw [Nat.zero_add]; exact hc j x hj) hg hlen

end Go.Proofs.YtlekeaganaliiaaDoor

/-
  Terms in memory; someTerm, someTerms: contracts. Conditions: none beyond those of each theorem.
-/
import Derived.Test.YtcoaoheakeodoaaDoorTermA
import Derived.Laws.ResultCell
namespace Go.Proofs.YtcoaoheakeodoaaDoor
open Go.ChangeShapes Go.WideShapes Go.ChangeAt Go.RowKit

/-- A term as its cells hold it. -/
structure TV where
  kind : Int
  chr : Int
  neg : Bool
  rv : Value
def TV.cells (t : TV) : List Value := [.int .i64 t.kind, .int .i32 t.chr, .bool t.neg, t.rv]

/-- What is asked of a drawn term: its ranges lie in memory from 'lo' on; a class has one. -/
def GoodT (lo : Nat) (w : World) (t : TV) : Prop := ∃ rs, RangesAt w t.rv rs ∧ (∀ k, t.rv.ownBlock = some k → lo ≤ k ∧ k < w.heap.size) ∧ (t.kind = 2 → 1 ≤ rs.length) ∧ rs.length ≤ 3 ∧ Nn rs ∧ 0 ≤ t.kind ∧ t.kind ≤ 3 ∧ 0 ≤ t.chr ∧ t.chr ≤ 2000000

theorem GoodT.grown {lo : Nat} {w w' : World} {t : TV} {r : Option Nat} (h : GoodT lo w t) (hg : w.grownBy w' r) (hr : ∀ k, t.rv.ownBlock = some k → r ≠ some k) : GoodT lo w' t := by
  obtain ⟨rs, h1, h2, h3, h4⟩ := h
  exact ⟨rs, h1.grown hg hr, fun k hk => ⟨(h2 k hk).1, Nat.lt_of_lt_of_le (h2 k hk).2 hg.size⟩, h3, h4⟩
theorem GoodT.nil {lo : Nat} {w : World} (k c : Int) (n : Bool) (hk : k ≠ 2) (h0 : 0 ≤ k) (h1 : k ≤ 3) (h2 : 0 ≤ c) (h3 : c ≤ 2000000) : GoodT lo w ⟨k, c, n, .slice none 0 0⟩ :=
  ⟨[], .inl ⟨rfl, rfl⟩, (fun k hk => by cases hk), (fun h => absurd h hk), (by simp), Nn.nil, h0, h1, h2, h3⟩

theorem blk4 {w : World} {g : Nat} {a b c d : Value} {t : TypeId} (h : w.heap[g]? = some (.cells #[a, b, c, d] t (0, 0))) :
    w.cell? ⟨g, 0, none⟩ = some a ∧ w.cell? ⟨g, 1, none⟩ = some b ∧ w.cell? ⟨g, 2, none⟩ = some c ∧ w.cell? ⟨g, 3, none⟩ = some d ∧
    w.frozen? ⟨g, 0, none⟩ = false ∧ w.frozen? ⟨g, 1, none⟩ = false ∧ w.frozen? ⟨g, 2, none⟩ = false ∧ w.frozen? ⟨g, 3, none⟩ = false := by
  simp [World.cell?, World.frozen?, h]

theorem set4_grown (w : World) (g : Nat) (a b c d : Value) : w.grownBy ((((w.setCell ⟨g, 0, none⟩ a).setCell ⟨g, 1, none⟩ b).setCell ⟨g, 2, none⟩ c).setCell ⟨g, 3, none⟩ d) (some g) :=
  (((show w.grownBy (w.setCell ⟨g, 0, none⟩ a) (some g) from grownBy_setCell w g 0 a 0).trans (grownBy_setCell _ g 1 b 0)).trans (grownBy_setCell _ g 2 c 0)).trans (grownBy_setCell _ g 3 d 0)

def TermPost (base B : Nat) (m : Int) (w : World) (e : Ending) (w' : World) : Prop := ∃ t : TV, e = .returned (.agg #[.int .i64 t.kind, .int .i32 t.chr, .bool t.neg, t.rv]) ∧ GoodT w.heap.size w' t ∧ Drew base B (m + 13) w w'

theorem someTerm_any (base B : Nat) (m : Int) (w : World) (h : Rd base w B m) (h0 : 0 ≤ m) (hm : m ≤ 700000) :
    Calls Tryd.prog 34 #[.pointer (some ⟨B, 0, none⟩)] w (TermPost base B m w) := by
  have g0 := World.grownBy_alloc w (.cells #[.int .i64 0, .int .i32 0, .bool false, .slice none 0 0] 33) none
  have hR0 := Lib.hid (h.grown g0 (fun k e => by cases e))
  have hlt := h.lt
  clear h g0
  go_enter Tryd.func34, Tryd.ntmps34
  go_wp2_with fail
  refine (pick_any base B m 8 _ hR0.out (by omega) (by omega)).mono ?_
  rintro e w1 ⟨x, rfl, hx0, hx1, hx2, hRd, hg⟩
  have hX := hx1 (by omega)
  have hB1 : Hid (w1.heap[w.heap.size]? = some (.cells #[.int .i64 0, .int .i32 0, .bool false, .slice none 0 0] 33 (0, 0))) := by
    apply Lib.hid
    rw [hg.block w.heap.size (by simp) (by intro e; injection e with e; omega)]
    exact heap_alloc_new w _
  have hD : Hid (Drew base B (m + 1) w w1) := ⟨hRd, (World.grownBy_alloc w (.cells #[.int .i64 0, .int .i32 0, .bool false, .slice none 0 0] 33) (some B)).trans hg⟩
  clear hRd hg hR0 hx1 hx2
  have hx : x = 0 ∨ x = 1 ∨ x = 2 ∨ x = 3 ∨ x = 4 ∨ (5 ≤ x) := by omega
  rcases hx with rfl | rfl | rfl | rfl | rfl | hx
  · obtain ⟨c0, c1, c2, c3, f0, f1, f2, f3⟩ := blk4 hB1.out
    go_wp2
    refine bodyPost_ret (v := .agg #[.int .i64 0, .int .i32 0, .bool false, .slice none 0 0]) (by simp [results, Tryd.results34, go_sem, c0, c1, c2, c3]) rfl ?_
    exact ⟨⟨0, 0, false, .slice none 0 0⟩, rfl, GoodT.nil _ _ _ (by decide) (by omega) (by omega) (by omega) (by omega), (hD.out.more (set4_grown w1 w.heap.size _ _ _ _) hlt (fun j e => by injection e with e; omega)).mono (by omega)⟩
  · obtain ⟨c0, c1, c2, c3, f0, f1, f2, f3⟩ := blk4 hB1.out
    go_wp2
    refine bodyPost_ret (v := .agg #[.int .i64 0, .int .i32 0, .bool false, .slice none 0 0]) (by simp [results, Tryd.results34, go_sem, c0, c1, c2, c3]) rfl ?_
    exact ⟨⟨0, 0, false, .slice none 0 0⟩, rfl, GoodT.nil _ _ _ (by decide) (by omega) (by omega) (by omega) (by omega), (hD.out.more (set4_grown w1 w.heap.size _ _ _ _) hlt (fun j e => by injection e with e; omega)).mono (by omega)⟩
  · obtain ⟨c0, c1, c2, c3, f0, f1, f2, f3⟩ := blk4 hB1.out
    go_wp2
    refine bodyPost_ret (v := .agg #[.int .i64 1, .int .i32 0, .bool false, .slice none 0 0]) (by simp [results, Tryd.results34, go_sem, c0, c1, c2, c3]) rfl ?_
    exact ⟨⟨1, 0, false, .slice none 0 0⟩, rfl, GoodT.nil _ _ _ (by decide) (by omega) (by omega) (by omega) (by omega), (hD.out.more (set4_grown w1 w.heap.size _ _ _ _) hlt (fun j e => by injection e with e; omega)).mono (by omega)⟩
  · go_wp2_with fail
    refine (pick_any base B _ 3 _ hD.out.1 (by omega) (by omega)).mono ?_
    rintro e w2 ⟨y, rfl, hy0, hy1, hy2, hRd, hg⟩
    have hD2 := Lib.hid (hD.out.trans ⟨hRd, hg⟩)
    have hB2 : Hid (w2.heap[w.heap.size]? = _) := (hg.block w.heap.size (lt_of_block hB1.out) (by intro e; injection e with e; omega)).trans hB1.out
    have hs2 := lt_of_block hB2.out
    clear hRd hg hD hB1 hy1 hy2
    go_wp2_with fail
    refine (someRanges_any base B _ _ hD2.out.1 (by omega) (by omega)).mono ?_
    rintro e w3 ⟨v, rs, rfl, hO, hr1, hr3, hnn, hDr⟩
    have HN := Lib.hid hnn
    clear hnn
    obtain ⟨g, cp, rfl, _, _⟩ := World.ownsRow.form hO (by omega)
    have hD3 := Lib.hid (hD2.out.trans hDr)
    have hB3 : Hid (w3.heap[w.heap.size]? = _) := (hDr.2.block w.heap.size hs2 (by intro e; injection e with e; omega)).trans hB2.out
    have hO3 := Lib.hid hO
    clear hDr hO hB2 hD2
    obtain ⟨c0, c1, c2, c3, f0, f1, f2, f3⟩ := blk4 hB3.out
    go_wp2
    refine bodyPost_ret (v := .agg #[.int .i64 2, .int .i32 0, .bool (y == 0), .slice (some ⟨g, 0, none⟩) rs.length cp]) (by simp [results, Tryd.results34, go_sem, c0, c1, c2, c3]) rfl ?_
    exact ⟨⟨2, 0, (y == 0), .slice (some ⟨g, 0, none⟩) rs.length cp⟩, rfl, ⟨rs, hO3.out.at.grown (set4_grown w3 w.heap.size _ _ _ _) (fun k hk => by have := (hO3.out.lt k hk).1; intro e; injection e with e; omega), fun k hk => ⟨by have := (hO3.out.lt k hk).1; omega, by have := (hO3.out.lt k hk).2; have := (set4_grown w3 w.heap.size (.int .i64 2) (.int .i32 0) (.bool (y == 0)) (.slice (some ⟨g, 0, none⟩) rs.length cp)).size; omega⟩, fun _ => hr1, hr3, HN.out, (by show (0 : Int) ≤ 2; omega), (by show (2 : Int) ≤ 3; omega), (by show (0 : Int) ≤ 0; omega), (by show (0 : Int) ≤ 2000000; omega)⟩, (hD3.out.more (set4_grown w3 w.heap.size _ _ _ _) hlt (fun j e => by injection e with e; omega)).mono (by omega)⟩
  · go_wp2_with fail
    refine (someRune_any base B _ _ hD.out.1 (by omega) (by omega)).mono ?_
    rintro e w2 ⟨c, rfl, hc0, hc1, hDr⟩
    have hD2 := Lib.hid (hD.out.trans hDr)
    have hB2 : Hid (w2.heap[w.heap.size]? = _) := (hDr.2.block w.heap.size (lt_of_block hB1.out) (by intro e; injection e with e; omega)).trans hB1.out
    clear hDr hD hB1
    obtain ⟨c0, c1, c2, c3, f0, f1, f2, f3⟩ := blk4 hB2.out
    go_wp2
    refine bodyPost_ret (v := .agg #[.int .i64 3, .int .i32 c, .bool false, .slice none 0 0]) (by simp [results, Tryd.results34, go_sem, c0, c1, c2, c3]) rfl ?_
    exact ⟨⟨3, c, false, .slice none 0 0⟩, rfl, GoodT.nil _ _ _ (by decide) (by omega) (by omega) (by omega) (by omega), (hD2.out.more (set4_grown w2 w.heap.size _ _ _ _) hlt (fun j e => by injection e with e; omega)).mono (by omega)⟩
  · have e0 : (x == 0) = false := by simp; omega
    have e1 : (x == 1) = false := by simp; omega
    have e2 : (x == 2) = false := by simp; omega
    have e3 : (x == 3) = false := by simp; omega
    have e4 : (x == 4) = false := by simp; omega
    clear hx hX hx0
    go_wp2_with fail
    refine (nameRune_any base B _ _ hD.out.1 (by omega) (by omega)).mono ?_
    rintro e w2 ⟨c, rfl, hc0, hc1, hDr⟩
    have hD2 := Lib.hid (hD.out.trans hDr)
    have hB2 : Hid (w2.heap[w.heap.size]? = _) := (hDr.2.block w.heap.size (lt_of_block hB1.out) (by intro e; injection e with e; omega)).trans hB1.out
    clear hDr hD hB1
    obtain ⟨c0, c1, c2, c3, f0, f1, f2, f3⟩ := blk4 hB2.out
    go_wp2
    refine bodyPost_ret (v := .agg #[.int .i64 3, .int .i32 c, .bool false, .slice none 0 0]) (by simp [results, Tryd.results34, go_sem, c0, c1, c2, c3]) rfl ?_
    exact ⟨⟨3, c, false, .slice none 0 0⟩, rfl, GoodT.nil _ _ _ (by decide) (by omega) (by omega) (by omega) (by omega), (hD2.out.more (set4_grown w2 w.heap.size _ _ _ _) hlt (fun j e => by injection e with e; omega)).mono (by omega)⟩

end Go.Proofs.YtcoaoheakeodoaaDoor

/-
  Terms that a law puts together: what it owns, and a term more. Conditions: none beyond those of each theorem.
-/
import Derived.Test.YtcoaoheakeodoaaDoorWriteC
namespace Go.Proofs.YtcoaoheakeodoaaDoor
open Go.ChangeShapes Go.WideShapes Go.ChangeAt Go.RowKit

theorem below_grown {w w' : World} (h : Below w.heap.size w w') : w.grownBy w' none := ⟨h.os, h.tape, h.output, h.size, fun k hk _ => h.block k hk⟩
theorem grown_below {w w' : World} {r : Option Nat} {B : Nat} (h : w.grownBy w' r) (hB : B ≤ w.heap.size) (hr : ∀ k, r = some k → B ≤ k) : Below B w w' :=
  ⟨h.os, h.tape, h.output, h.size, fun k hk => h.block k (by omega) (fun e => by have := hr k e.symm; omega)⟩

theorem RgRd.kept {lo : Nat} {w w' : World} {v : Value} {rs : List (Nat × Nat)} {r : Option Nat} (h : RgRd lo w v rs) (hg : w.grownBy w' r) (hr : rs ≠ [] → ∀ k, v.ownBlock = some k → r ≠ some k) : RgRd lo w' v rs := by
  obtain ⟨a, cap, rfl, h1, h2⟩ := h
  refine ⟨a, cap, rfl, h1, fun j r' hj => ?_⟩
  obtain ⟨g, o, rfl, hlo, hlt, c1, c2⟩ := h2 j r' hj
  have hn : some g ≠ r := fun e => hr (by rintro rfl; simp at hj) g rfl e.symm
  exact ⟨g, o, rfl, hlo, Nat.lt_of_lt_of_le hlt hg.size, hg.cell c1 hn, hg.cell c2 hn⟩
theorem RgRd.lt {lo : Nat} {w : World} {v : Value} {rs : List (Nat × Nat)} (h : RgRd lo w v rs) (hn : rs ≠ []) : ∀ k, v.ownBlock = some k → lo ≤ k ∧ k < w.heap.size := by
  intro k hk
  obtain ⟨a, cap, rfl, h1, h2⟩ := h
  obtain ⟨r, rs', rfl⟩ := List.exists_cons_of_ne_nil hn
  obtain ⟨g, o, rfl, hlo, hlt, _⟩ := h2 0 r rfl
  have : g = k := by injection hk
  omega
/-- Ranges of one's own are read. -/
theorem OwnR.rd {B : Nat} {w : World} {v : Value} {rs : List (Nat × Nat)} (h : OwnR B w v (rs.map fun r => (((r.1 : Nat) : Int), ((r.2 : Nat) : Int)))) : RgRd 0 w v rs :=
  RangesAt.rd h.at (fun _ _ => Nat.zero_le _)

/-- A term's cells, as they lie in memory. -/
def TmX (w : World) (x : TV) (t : Tm) : Prop := x.kind = (t.kind : Nat) ∧ x.chr = (t.chr : Nat) ∧ x.neg = t.neg ∧ RgRd 0 w x.rv t.rs
/-- Terms that are put together. -/
def TB (lo : Nat) (w : World) (v : Value) (xs : List TV) (ts : List Tm) : Prop :=
  xs.length = ts.length ∧ w.ownsRow lo 33 4 v xs.length (tcells xs) ∧
    ∀ (j : Nat) (x : TV) (t : Tm), xs[j]? = some x → ts[j]? = some t → TmX w x t ∧ (t.rs ≠ [] → ∀ k, x.rv.ownBlock = some k → v.ownBlock ≠ some k)
theorem TB.below {lo : Nat} {w w' : World} {v : Value} {xs : List TV} {ts : List Tm} (h : TB lo w v xs ts) (hb : Below w.heap.size w w') : TB lo w' v xs ts := by
  obtain ⟨h1, h2, h3⟩ := h
  have hg := below_grown hb
  refine ⟨h1, World.ownsRow.kept h2 hg (by cases hv : v.ownBlock <;> simp), fun j x t hx ht => ?_⟩
  obtain ⟨⟨a, b, c, d⟩, e⟩ := h3 j x t hx ht
  exact ⟨⟨a, b, c, d.kept hg (fun _ _ _ e => by cases e)⟩, e⟩
theorem TB.made {lo : Nat} (w : World) (hb : lo ≤ w.heap.size) : TB lo (w.alloc (.cells #[] 33)) (.slice (some ⟨w.heap.size, 0, none⟩) 0 0) [] [] :=
  ⟨rfl, World.ownsRow_made w #[] 0 hb (by unfold maxLen; omega) rfl, fun j x t hx => by simp at hx⟩
theorem TB.snoc {lo : Nat} {w w' : World} {v : Value} {xs : List TV} {ts : List Tm} {x : TV} {t : Tm} {g cap : Nat} (h : TB lo w v xs ts) (ht : TmX w x t) (hd : t.rs ≠ [] → ∀ k, x.rv.ownBlock = some k → v.ownBlock ≠ some k)
    (hown : w'.ownsRow lo 33 4 (.slice (some ⟨g, 0, none⟩) (xs.length + 1) cap) (xs.length + 1) (tcells xs ++ x.cells)) (hg : w.grownBy w' v.ownBlock) (hat : v.ownBlock = some g ∨ g = w.heap.size) :
    TB lo w' (.slice (some ⟨g, 0, none⟩) (xs.length + 1) cap) (xs ++ [x]) (ts ++ [t]) := by
  have key : ∀ (y : TV) (u : Tm), TmX w y u → (u.rs ≠ [] → ∀ k, y.rv.ownBlock = some k → v.ownBlock ≠ some k) → TmX w' y u ∧ (u.rs ≠ [] → ∀ k, y.rv.ownBlock = some k → (Value.slice (some ⟨g, 0, none⟩) (xs.length + 1) cap).ownBlock ≠ some k) := by
    rintro y u ⟨a, b, c, d⟩ hyd
    refine ⟨⟨a, b, c, d.kept hg (fun hne k hk e => hyd hne k hk e)⟩, fun hne k hk e => ?_⟩
    have e' : g = k := by injection e
    rcases hat with h | h
    · exact hyd hne k hk (by rw [h, e'])
    · have := (d.lt hne k hk).2
      omega
  obtain ⟨h1, h2, h3⟩ := h
  refine ⟨by simp [h1], by rw [tcells_snoc, List.length_append]; exact hown, fun j y u hy hu => ?_⟩
  by_cases hj : j < xs.length
  · rw [List.getElem?_append_left hj] at hy
    rw [List.getElem?_append_left (by omega)] at hu
    obtain ⟨p1, p2⟩ := h3 j y u hy hu
    exact key y u p1 p2
  · have hj2 : j = xs.length := by
      have := (List.getElem?_eq_some_iff.1 hy).1
      simp at this
      omega
    subst hj2
    rw [List.getElem?_append_right (Nat.le_refl _)] at hy
    rw [h1, List.getElem?_append_right (Nat.le_refl _)] at hu
    simp at hy hu
    subst hy hu
    exact key _ _ ht hd
theorem TB.rd {lo : Nat} {w : World} {v : Value} {xs : List TV} {ts : List Tm} (h : TB lo w v xs ts) : TmsRd 0 w v ts := by
  obtain ⟨hl, h1, h2⟩ := h
  have hlt := h1.lt
  have hcell := fun g hg => World.ownsRow.cells (g := g) h1 hg
  obtain ⟨_, h3 | ⟨g, cap, cur, e1, e2, e3, e4, e5, e6, e7⟩⟩ := h1
  · obtain ⟨e, hl0⟩ := h3
    rw [hl] at hl0
    refine ⟨none, 0, by rw [hl0]; exact e, by omega, fun j t hj => ?_⟩
    have := List.length_eq_zero_iff.1 hl0
    subst this
    simp at hj
  · subst e1
    refine ⟨some ⟨g, 0, none⟩, cap, by rw [← hl], by omega, fun j t hj => ?_⟩
    have hj' : j < xs.length := by
      rw [hl]
      exact (List.getElem?_eq_some_iff.1 hj).1
    obtain ⟨⟨k1, k2, k3, k4⟩, _⟩ := h2 j xs[j] t (List.getElem?_eq_getElem hj') hj
    obtain ⟨a1, a2, a3, a4⟩ := tcells_at xs j xs[j] (List.getElem?_eq_getElem hj')
    have e : ∀ k, (⟨g, 0, none⟩ : Addr).add k = ⟨g, k, none⟩ := fun k => by unfold Addr.add; split <;> simp_all
    have b1 := hcell g rfl _ _ a1
    have b2 := hcell g rfl _ _ a2
    have b3 := hcell g rfl _ _ a3
    have b4 := hcell g rfl _ _ a4
    rw [e] at b1 b2 b3 b4
    refine ⟨g, 0, xs[j].rv, rfl, Nat.zero_le _, (hlt g rfl).2, ?_, ?_, ?_, ?_, k4⟩
    · rw [Nat.zero_add, Nat.mul_comm, b1, k1]
    · rw [Nat.zero_add, Nat.mul_comm, b2, k2]
    · rw [Nat.zero_add, Nat.mul_comm, b3, k3]
    · rw [Nat.zero_add, Nat.mul_comm, b4]
theorem TB.len {lo : Nat} {w : World} {v : Value} {xs : List TV} {ts : List Tm} (h : TB lo w v xs ts) : ∃ a cap, v = .slice a ts.length cap := h.rd.len

theorem weight_at' {ts : List Tm} {k : Nat} {t : Tm} (h : ts[k]? = some t) : t.rs.length ≤ weight ts := by
  obtain ⟨hk, rfl⟩ := List.getElem?_eq_some_iff.1 h
  have h1 := weight_append (ts.take k) (ts.drop k)
  rw [List.take_append_drop, List.drop_eq_getElem_cons hk, weight_cons] at h1
  omega

/-- Growth of one row alone, or of rows that are new. -/
theorem grown_row {a b c : World} {B0 : Nat} {r : Option Nat} (h : a.grownBy b (some B0)) (k : b.grownBy c r) (hr : ∀ j, r = some j → j = B0 ∨ a.heap.size ≤ j) : a.grownBy c (some B0) :=
  ⟨k.os.trans h.os, k.tape.trans h.tape, k.output.trans h.output, Nat.le_trans h.size k.size, fun i hi hne => (k.block i (Nat.lt_of_lt_of_le hi h.size) (fun e => by
    rcases hr i e.symm with h' | h'
    · exact hne (by rw [h'])
    · omega)).trans (h.block i hi hne)⟩
/-- A loop that puts terms together: f of each term that is read. -/
def BuildRel (us : Nat → List Tm) (n : Nat) (B0 : Nat) (w5 : World) (o i : Value) (wr : World) : Prop :=
  ∃ (k : Nat) (xs : List TV), i = .int .i64 (k : Nat) ∧ k ≤ n ∧ TB B0 wr o xs (us k) ∧ (∀ j, o.ownBlock = some j → j = B0 ∨ w5.heap.size ≤ j) ∧ w5.grownBy wr (some B0)
theorem BuildRel.step {us : Nat → List Tm} {n B0 : Nat} {w5 : World} {o : Value} {wr W w4 : World} {k k' : Nat} {xs : List TV} {x : TV} {t : Tm} {g cap : Nat} (hO : TB B0 W o xs (us k)) (hW : ∀ j, o.ownBlock = some j → j = B0 ∨ w5.heap.size ≤ j) (hG : w5.grownBy wr (some B0))
    (hb : Below wr.heap.size wr W) (hx : TmX W x t) (hd : t.rs ≠ [] → ∀ k, x.rv.ownBlock = some k → o.ownBlock ≠ some k) (hown : w4.ownsRow B0 33 4 (.slice (some ⟨g, 0, none⟩) (xs.length + 1) cap) (xs.length + 1) (tcells xs ++ x.cells)) (hg : W.grownBy w4 o.ownBlock) (hat : o.ownBlock = some g ∨ g = W.heap.size)
    (hk : k' ≤ n) (hn : us k' = us k ++ [t]) : BuildRel us n B0 w5 (.slice (some ⟨g, 0, none⟩) (xs.length + 1) cap) (.int .i64 (k' : Nat)) w4 := by
  have h1 := grown_row hG (below_grown hb) (fun j e => by cases e)
  refine ⟨k', xs ++ [x], rfl, hk, by rw [hn]; exact hO.snoc hx hd hown hg hat, fun j e => ?_, grown_row h1 hg hW⟩
  have e' : g = j := by injection e
  subst e'
  rcases hat with h | h
  · exact hW g h
  · right
    have := h1.size
    omega
theorem weight_map (f : Tm → Tm) (c : Nat) (h : ∀ t, (f t).rs.length ≤ c * (1 + t.rs.length)) : ∀ (ts : List Tm), weight (ts.map f) ≤ (c + 1) * weight ts
  | [] => by simp [weight]
  | t :: ts => by
    have ih := weight_map f c h ts
    have := h t
    rw [List.map_cons, weight_cons, weight_cons, Nat.mul_add, Nat.add_mul, Nat.one_mul]
    omega
theorem map_take_succ (f : Tm → Tm) {ts : List Tm} {k : Nat} {t : Tm} (h : ts[k]? = some t) : (ts.take (k + 1)).map f = (ts.take k).map f ++ [f t] := by
  rw [take_snoc' ts k t h]
  simp
theorem rg_new (V : World) (h : Nat) (hV : V.heap.size = h) (a b : Nat) : RgRd 0 (V.alloc (.cells #[.int .i32 (a : Nat), .int .i32 (b : Nat)] 63)) (.slice (some ⟨h, 0, none⟩) 1 1) [(a, b)] := by
  subst hV
  refine ⟨_, 1, rfl, by simp, fun j r hj => ?_⟩
  match j, hj with
  | 0, hj =>
    simp at hj
    subst hj
    exact ⟨V.heap.size, 0, rfl, Nat.zero_le _, by simp, by simp, by simp⟩
  | j + 1, hj => simp at hj
theorem four_at (V : World) (h : Nat) (hV : V.heap.size = h) (a b c d : Value) (t : TypeId) : ∀ (j : Nat) (u : Value), [a, b, c, d][j]? = some u → (V.alloc (.cells #[a, b, c, d] t)).cell? ((⟨h, 0, none⟩ : Addr).add j) = some u := by
  subst hV
  exact four_cells V a b c d t

end Go.Proofs.YtcoaoheakeodoaaDoor

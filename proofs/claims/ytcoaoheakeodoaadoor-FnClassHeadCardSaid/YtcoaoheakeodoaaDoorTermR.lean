/-
  Terms that are read, wherever they lie: the view that all readers share. Conditions: none beyond those of each theorem.
-/
import Derived.Test.YtcoaoheakeodoaaDoorTermC
import Derived.Test.YtcoaoheakeodoaaDoorRunes
namespace Go.Proofs.YtcoaoheakeodoaaDoor
open Go.ChangeShapes Go.WideShapes Go.ChangeAt Go.RowKit

/-- Ranges that are read; their block is from 'lo' on. -/
def RgRd (lo : Nat) (w : World) (v : Value) (rs : List (Nat × Nat)) : Prop :=
  ∃ a cap, v = .slice a rs.length cap ∧ rs.length ≤ cap ∧ ∀ (j : Nat) (r : Nat × Nat), rs[j]? = some r → ∃ g o, a = some ⟨g, o, none⟩ ∧ lo ≤ g ∧ g < w.heap.size ∧
    w.cell? ⟨g, o + j * 2, none⟩ = some (.int .i32 (r.1 : Nat)) ∧ w.cell? ⟨g, o + j * 2 + 1, none⟩ = some (.int .i32 (r.2 : Nat))

theorem RgRd.below {lo : Nat} {w w' : World} {v : Value} {rs : List (Nat × Nat)} (h : RgRd lo w v rs) (hb : Below w.heap.size w w') : RgRd lo w' v rs := by
  obtain ⟨a, cap, e, h1, h2⟩ := h
  refine ⟨a, cap, e, h1, fun j r hj => ?_⟩
  obtain ⟨g, o, e, hlo, hlt, c1, c2⟩ := h2 j r hj
  exact ⟨g, o, e, hlo, Nat.lt_of_lt_of_le hlt hb.size, (hb.cell (p := ⟨g, _, none⟩) hlt).trans c1, (hb.cell (p := ⟨g, _, none⟩) hlt).trans c2⟩
theorem RgRd.grown {lo : Nat} {w w' : World} {v : Value} {rs : List (Nat × Nat)} {r : Option Nat} (h : RgRd lo w v rs) (hg : w.grownBy w' r) (hr : ∀ k, r = some k → k < lo) : RgRd lo w' v rs := by
  obtain ⟨a, cap, e, h1, h2⟩ := h
  refine ⟨a, cap, e, h1, fun j r' hj => ?_⟩
  obtain ⟨g, o, e, hlo, hlt, c1, c2⟩ := h2 j r' hj
  have hn : some g ≠ r := fun e => by have := hr g e.symm; omega
  exact ⟨g, o, e, hlo, Nat.lt_of_lt_of_le hlt hg.size, hg.cell c1 hn, hg.cell c2 hn⟩
theorem RgRd.low {lo lo' : Nat} {w : World} {v : Value} {rs : List (Nat × Nat)} (h : RgRd lo w v rs) (hl : lo' ≤ lo) : RgRd lo' w v rs := by
  obtain ⟨a, cap, e, h1, h2⟩ := h
  refine ⟨a, cap, e, h1, fun j r hj => ?_⟩
  obtain ⟨g, o, e, hlo, h3⟩ := h2 j r hj
  exact ⟨g, o, e, by omega, h3⟩
theorem RgRd.nil (lo : Nat) (w : World) : RgRd lo w (.slice none 0 0) [] := ⟨none, 0, rfl, by simp, fun j r hj => by simp at hj⟩

/-- Terms that are read. -/
def TmsRd (lo : Nat) (w : World) (v : Value) (ts : List Tm) : Prop :=
  ∃ a cap, v = .slice a ts.length cap ∧ ts.length ≤ cap ∧ ∀ (j : Nat) (t : Tm), ts[j]? = some t → ∃ g o rv, a = some ⟨g, o, none⟩ ∧ lo ≤ g ∧ g < w.heap.size ∧
    w.cell? ⟨g, o + j * 4, none⟩ = some (.int .i64 (t.kind : Nat)) ∧ w.cell? ⟨g, o + j * 4 + 1, none⟩ = some (.int .i32 (t.chr : Nat)) ∧ w.cell? ⟨g, o + j * 4 + 2, none⟩ = some (.bool t.neg) ∧ w.cell? ⟨g, o + j * 4 + 3, none⟩ = some rv ∧ RgRd lo w rv t.rs

theorem TmsRd.below {lo : Nat} {w w' : World} {v : Value} {ts : List Tm} (h : TmsRd lo w v ts) (hb : Below w.heap.size w w') : TmsRd lo w' v ts := by
  obtain ⟨a, cap, e, h1, h2⟩ := h
  refine ⟨a, cap, e, h1, fun j r hj => ?_⟩
  obtain ⟨g, o, rv, e, hlo, hlt, c1, c2, c3, c4, hr⟩ := h2 j r hj
  exact ⟨g, o, rv, e, hlo, Nat.lt_of_lt_of_le hlt hb.size, (hb.cell (p := ⟨g, _, none⟩) hlt).trans c1, (hb.cell (p := ⟨g, _, none⟩) hlt).trans c2, (hb.cell (p := ⟨g, _, none⟩) hlt).trans c3, (hb.cell (p := ⟨g, _, none⟩) hlt).trans c4, hr.below hb⟩
theorem TmsRd.grown {lo : Nat} {w w' : World} {v : Value} {ts : List Tm} {r : Option Nat} (h : TmsRd lo w v ts) (hg : w.grownBy w' r) (hr : ∀ k, r = some k → k < lo) : TmsRd lo w' v ts := by
  obtain ⟨a, cap, e, h1, h2⟩ := h
  refine ⟨a, cap, e, h1, fun j r' hj => ?_⟩
  obtain ⟨g, o, rv, e, hlo, hlt, c1, c2, c3, c4, hr'⟩ := h2 j r' hj
  have hn : some g ≠ r := fun e => by have := hr g e.symm; omega
  exact ⟨g, o, rv, e, hlo, Nat.lt_of_lt_of_le hlt hg.size, hg.cell c1 hn, hg.cell c2 hn, hg.cell c3 hn, hg.cell c4 hn, hr'.grown hg hr⟩
theorem TmsRd.low {lo lo' : Nat} {w : World} {v : Value} {ts : List Tm} (h : TmsRd lo w v ts) (hl : lo' ≤ lo) : TmsRd lo' w v ts := by
  obtain ⟨a, cap, e, h1, h2⟩ := h
  refine ⟨a, cap, e, h1, fun j r hj => ?_⟩
  obtain ⟨g, o, rv, e, hlo, hlt, c1, c2, c3, c4, hr⟩ := h2 j r hj
  exact ⟨g, o, rv, e, by omega, hlt, c1, c2, c3, c4, hr.low hl⟩
theorem TmsRd.len {lo : Nat} {w : World} {v : Value} {ts : List Tm} (h : TmsRd lo w v ts) : ∃ a cap, v = .slice a ts.length cap := by
  obtain ⟨a, cap, e, _⟩ := h
  exact ⟨a, cap, e⟩

/-- Out of a row of the call's own: the ranges. -/
theorem RangesAt.rd {lo : Nat} {w : World} {v : Value} {rs : List (Nat × Nat)} (h : RangesAt w v (rs.map fun r => (((r.1 : Nat) : Int), ((r.2 : Nat) : Int)))) (hl : ∀ k, v.ownBlock = some k → lo ≤ k) : RgRd lo w v rs := by
  rcases h with ⟨rfl, h⟩ | ⟨g, cap, e, h1, h2, h3, h4⟩
  · have : rs = [] := List.map_eq_nil_iff.1 h
    subst this
    exact RgRd.nil _ _
  · rw [List.length_map] at e h1
    refine ⟨_, cap, e, h1, fun j r hj => ⟨g, 0, rfl, hl g (by rw [e]; rfl), h3, ?_⟩⟩
    have := h4 j (((r.1 : Nat) : Int), ((r.2 : Nat) : Int)) (by rw [List.getElem?_map, hj]; rfl)
    rw [Nat.zero_add, Nat.mul_comm]
    exact this

/-- A term's cells and the term. -/
def TmAt (lo : Nat) (w : World) (x : TV) (t : Tm) : Prop := x.kind = (t.kind : Nat) ∧ x.chr = (t.chr : Nat) ∧ x.neg = t.neg ∧ RangesAt w x.rv (t.rs.map fun r => (((r.1 : Nat) : Int), ((r.2 : Nat) : Int))) ∧ (∀ k, x.rv.ownBlock = some k → lo ≤ k ∧ k < w.heap.size)

theorem nat_pairs : ∀ (rs : List (Int × Int)), Nn rs → ∃ ns : List (Nat × Nat), rs = ns.map (fun r => (((r.1 : Nat) : Int), ((r.2 : Nat) : Int))) ∧ ∀ r ∈ ns, r.1 ≤ 2000000 ∧ r.2 ≤ 2000000
  | [], _ => ⟨[], rfl, by simp⟩
  | r :: rs, h => by
    obtain ⟨ns, e, hb⟩ := nat_pairs rs (fun x hx => h x (by simp [hx]))
    obtain ⟨h1, h2, h3, h4⟩ := h r (by simp)
    obtain ⟨a, ha⟩ := Int.eq_ofNat_of_zero_le h1
    obtain ⟨b, hb'⟩ := Int.eq_ofNat_of_zero_le h3
    refine ⟨(a, b) :: ns, ?_, ?_⟩
    · rw [e, List.map_cons]
      congr 1
      exact Prod.ext ha hb'
    · intro x hx
      rcases List.mem_cons.1 hx with rfl | hx
      · exact ⟨by omega, by omega⟩
      · exact hb x hx

theorem GoodT.tm {lo : Nat} {w : World} {x : TV} (h : GoodT lo w x) : ∃ t : Tm, TmAt lo w x t ∧ t.kind ≤ 3 ∧ t.chr ≤ 2000000 ∧ t.rs.length ≤ 3 ∧ ∀ r ∈ t.rs, r.1 ≤ 2000000 ∧ r.2 ≤ 2000000 := by
  obtain ⟨rs, h1, h2, h3, h4, h5, h6, h7, h8, h9⟩ := h
  obtain ⟨ns, rfl, hb⟩ := nat_pairs rs h5
  obtain ⟨k, hk⟩ := Int.eq_ofNat_of_zero_le h6
  obtain ⟨c, hc⟩ := Int.eq_ofNat_of_zero_le h8
  refine ⟨⟨k, c, x.neg, ns⟩, ⟨hk, hc, rfl, h1, h2⟩, by show k ≤ 3; omega, by show c ≤ 2000000; omega, ?_, hb⟩
  rw [List.length_map] at h4
  exact h4

theorem choose_list {α β : Type} {R : α → β → Prop} : ∀ (l : List α), (∀ x ∈ l, ∃ y, R x y) → ∃ l' : List β, l'.length = l.length ∧ ∀ (j : Nat) (x : α) (y : β), l[j]? = some x → l'[j]? = some y → R x y
  | [], _ => ⟨[], rfl, fun j x y h => by simp at h⟩
  | a :: l, h => by
    obtain ⟨b, hb⟩ := h a (by simp)
    obtain ⟨l', e, hl⟩ := choose_list l (fun x hx => h x (by simp [hx]))
    refine ⟨b :: l', by simp [e], fun j x y hx hy => ?_⟩
    cases j with
    | zero => simp at hx hy; subst hx; subst hy; exact hb
    | succ j => exact hl j x y (by simpa using hx) (by simpa using hy)

/-- Terms of the call's own, known one by one. -/
def TermsIs (lo : Nat) (w : World) (v : Value) (ts : List Tm) : Prop :=
  ∃ xs : List TV, xs.length = ts.length ∧ w.ownsRow lo 33 4 v xs.length (tcells xs) ∧ ∀ (j : Nat) (x : TV) (t : Tm), xs[j]? = some x → ts[j]? = some t → TmAt lo w x t ∧ ∀ k, x.rv.ownBlock = some k → v.ownBlock ≠ some k

theorem TermsIs.rd {lo : Nat} {w : World} {v : Value} {ts : List Tm} (h : TermsIs lo w v ts) : TmsRd lo w v ts := by
  obtain ⟨xs, hl, h1, h2⟩ := h
  have hlt := h1.lt
  have hcell := fun g hg => World.ownsRow.cells (g := g) h1 hg
  obtain ⟨_, h3 | ⟨g, cap, cur, e1, e2, e3, e4, e5, e6, e7⟩⟩ := h1
  · obtain ⟨e, hl0⟩ := h3
    rw [hl] at hl0
    refine ⟨none, 0, by rw [hl0]; exact e, by omega, fun j t hj => ?_⟩
    have := List.length_eq_zero_iff.1 hl0
    subst this
    simp at hj
  · subst e1
    refine ⟨some ⟨g, 0, none⟩, cap, by rw [← hl], by omega, fun j t hj => ?_⟩
    have hj' : j < xs.length := by
      rw [hl]
      exact (List.getElem?_eq_some_iff.1 hj).1
    obtain ⟨⟨k1, k2, k3, k4, k5⟩, _⟩ := h2 j xs[j] t (List.getElem?_eq_getElem hj') hj
    obtain ⟨a1, a2, a3, a4⟩ := tcells_at xs j xs[j] (List.getElem?_eq_getElem hj')
    have e : ∀ k, (⟨g, 0, none⟩ : Addr).add k = ⟨g, k, none⟩ := fun k => by unfold Addr.add; split <;> simp_all
    have b1 := hcell g rfl _ _ a1
    have b2 := hcell g rfl _ _ a2
    have b3 := hcell g rfl _ _ a3
    have b4 := hcell g rfl _ _ a4
    rw [e] at b1 b2 b3 b4
    refine ⟨g, 0, xs[j].rv, rfl, e2, (hlt g rfl).2, ?_, ?_, ?_, ?_, k4.rd (fun k hk => (k5 k hk).1)⟩
    · rw [Nat.zero_add, Nat.mul_comm, b1, k1]
    · rw [Nat.zero_add, Nat.mul_comm, b2, k2]
    · rw [Nat.zero_add, Nat.mul_comm, b3, k3]
    · rw [Nat.zero_add, Nat.mul_comm, b4]

/-- What is known of drawn terms. -/
def drawnT (t : Tm) : Prop := t.kind ≤ 3 ∧ t.chr ≤ 2000000 ∧ t.rs.length ≤ 3 ∧ ∀ r ∈ t.rs, r.1 ≤ 2000000 ∧ r.2 ≤ 2000000
theorem TermsAt.is {lo : Nat} {w : World} {v : Value} {xs : List TV} (h : TermsAt lo w v xs) : ∃ ts : List Tm, ts.length = xs.length ∧ TermsIs lo w v ts ∧ ∀ t ∈ ts, drawnT t := by
  obtain ⟨ts, hl, hts⟩ := choose_list (R := fun x t => TmAt lo w x t ∧ drawnT t) xs (fun x hx => by
    obtain ⟨t, h1, h2⟩ := (h.2 x hx).1.tm
    exact ⟨t, h1, h2⟩)
  refine ⟨ts, hl, ⟨xs, hl.symm, h.1, fun j x t hx ht => ⟨(hts j x t hx ht).1, (h.2 x (List.mem_of_getElem? hx)).2⟩⟩, fun t ht => ?_⟩
  obtain ⟨j, hj, rfl⟩ := List.getElem_of_mem ht
  have hj' : j < xs.length := by omega
  exact (hts j xs[j] _ (List.getElem?_eq_getElem hj') (List.getElem?_eq_getElem hj)).2

end Go.Proofs.YtcoaoheakeodoaaDoor

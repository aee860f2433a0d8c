/-
  spec.Read: its contract. Conditions: none beyond those of each theorem.
-/
import Derived.Test.YtcoaoheakeodoaaDoorReadB
import Derived.Deep.RegionLaw
namespace Go.Proofs.YtcoaoheakeodoaaDoor
open Go.ChangeShapes Go.WideShapes Go.ChangeAt Go.RowKit

def RR.pre (ts : List Tm) : RR → RR
  | .good us => .good (ts ++ us)
  | .bad s => .bad s
theorem RR.pre_nil (r : RR) : r.pre [] = r := by cases r <;> rfl
theorem RR.pre_push (ts : List Tm) (t : Tm) (r : RR) : (r.push t).pre ts = r.pre (ts ++ [t]) := by
  cases r with
  | good us => simp [RR.push, RR.pre]
  | bad s => rfl

/-- Terms of the call's own, known one by one; their memory keeps clear of block B4. -/
def TIx (lo B4 : Nat) (w : World) (v : Value) (xs : List TV) (ts : List Tm) : Prop :=
  v.ownBlock ≠ some B4 ∧ xs.length = ts.length ∧ w.ownsRow lo 33 4 v xs.length (tcells xs) ∧
  ∀ (j : Nat) (x : TV) (t : Tm), xs[j]? = some x → ts[j]? = some t → TmAt lo w x t ∧ ∀ q, x.rv.ownBlock = some q → v.ownBlock ≠ some q ∧ q ≠ B4

theorem TIx.is {lo B4 : Nat} {w : World} {v : Value} {xs : List TV} {ts : List Tm} (h : TIx lo B4 w v xs ts) : TermsIs lo w v ts := ⟨xs, h.2.1, h.2.2.1, fun j x t hx ht => ⟨(h.2.2.2 j x t hx ht).1, fun q hq => ((h.2.2.2 j x t hx ht).2 q hq).1⟩⟩
theorem TmAt.grown {lo : Nat} {w w' : World} {x : TV} {t : Tm} {r : Option Nat} (h : TmAt lo w x t) (hg : w.grownBy w' r) (hr : ∀ k, x.rv.ownBlock = some k → r ≠ some k) : TmAt lo w' x t :=
  ⟨h.1, h.2.1, h.2.2.1, h.2.2.2.1.grown hg hr, fun k hk => ⟨(h.2.2.2.2 k hk).1, Nat.lt_of_lt_of_le (h.2.2.2.2 k hk).2 hg.size⟩⟩
theorem TIx.grown {lo B4 : Nat} {w w' : World} {v : Value} {xs : List TV} {ts : List Tm} {r : Option Nat} (h : TIx lo B4 w v xs ts) (hg : w.grownBy w' r) (hr : ∀ k, r = some k → k = B4) : TIx lo B4 w' v xs ts := by
  refine ⟨h.1, h.2.1, World.ownsRow.kept h.2.2.1 hg ?_, fun j x t hx ht => ?_⟩
  · cases hv : v.ownBlock with
    | none => exact .inl rfl
    | some k =>
      refine .inr (fun e => h.1 ?_)
      rw [hv]
      rw [hr k e.symm]
  · obtain ⟨h1, h2⟩ := h.2.2.2 j x t hx ht
    exact ⟨h1.grown hg (fun k hk e => (h2 k hk).2 (hr k e)), h2⟩

theorem getElem?_snoc {α : Type} {l : List α} {a : α} {j : Nat} {x : α} (h : (l ++ [a])[j]? = some x) : (j < l.length ∧ l[j]? = some x) ∨ (j = l.length ∧ x = a) := by
  by_cases hj : j < l.length
  · rw [List.getElem?_append_left hj] at h
    exact .inl ⟨hj, h⟩
  · rw [List.getElem?_append_right (by omega)] at h
    have : j - l.length = 0 := by
      cases hk : j - l.length with
      | zero => rfl
      | succ n => rw [hk] at h; simp at h
    rw [this] at h
    simp at h
    exact .inr ⟨by omega, h.symm⟩

/-- A term more. -/
theorem TIx.snoc {lo B4 : Nat} {w w' : World} {v : Value} {xs : List TV} {ts : List Tm} {x : TV} {t : Tm} {g cap : Nat} (h : TIx lo B4 w v xs ts) (ht : TmAt lo w x t) (hx : ∀ q, x.rv.ownBlock = some q → v.ownBlock ≠ some q ∧ q ≠ B4) (hB : B4 < w.heap.size)
    (hown : w'.ownsRow lo 33 4 (.slice (some ⟨g, 0, none⟩) (xs.length + 1) cap) (xs.length + 1) (tcells xs ++ x.cells)) (hg : w.grownBy w' v.ownBlock) (hat : v.ownBlock = some g ∨ g = w.heap.size + 1) :
    TIx lo B4 w' (.slice (some ⟨g, 0, none⟩) (ts.length + 1) cap) (xs ++ [x]) (ts ++ [t]) := by
  have hgB : g ≠ B4 := by
    rcases hat with e | e
    · intro e2
      exact h.1 (by rw [e, e2])
    · omega
  have key : ∀ (y : TV) (u : Tm), TmAt lo w y u → (∀ q, y.rv.ownBlock = some q → v.ownBlock ≠ some q ∧ q ≠ B4) → TmAt lo w' y u ∧ ∀ q, y.rv.ownBlock = some q → (Value.slice (some ⟨g, 0, none⟩) (ts.length + 1) cap).ownBlock ≠ some q ∧ q ≠ B4 := by
    intro y u hy hd
    refine ⟨hy.grown hg (fun k hk => (hd k hk).1), fun q hq => ⟨fun e => ?_, (hd q hq).2⟩⟩
    have e' : g = q := by injection e
    have hlt := (hy.2.2.2.2 q hq).2
    rcases hat with h' | h'
    · exact (hd q hq).1 (by rw [h', e'])
    · omega
  refine ⟨fun e => hgB (by injection e), by simp [h.2.1], ?_, fun j y u hy hu => ?_⟩
  · rw [tcells_snoc, List.length_append, ← h.2.1]
    exact hown
  · rcases getElem?_snoc hy with ⟨h1, h2⟩ | ⟨h1, h2⟩
    · rcases getElem?_snoc hu with ⟨h3, h4⟩ | ⟨h3, _⟩
      · obtain ⟨a1, a2⟩ := h.2.2.2 j y u h2 h4
        exact key y u a1 a2
      · have := h.2.1; omega
    · rcases getElem?_snoc hu with ⟨h3, _⟩ | ⟨_, h4⟩
      · have := h.2.1; omega
      · subst h2
        subst h4
        exact key _ _ ht hx

theorem TmAt.nil {lo : Nat} {w : World} (k c : Nat) : TmAt lo w ⟨(k : Int), (c : Int), false, .slice none 0 0⟩ ⟨k, c, false, []⟩ := ⟨rfl, rfl, rfl, .inl ⟨rfl, rfl⟩, fun q hq => by cases hq⟩

/-- What spec.Read returns. -/
def ReadPost (cs : List Nat) (w : World) (e : Ending) (w' : World) : Prop := Below w.heap.size w w' ∧
  ((∃ s, readR cs = .bad s ∧ e = .returned (.agg #[.slice none 0 0, .bool false, .bool s])) ∨
   (∃ ts va vc, readR cs = .good ts ∧ e = .returned (.agg #[.slice va ts.length vc, .bool true, .bool true]) ∧ TmsRd w.heap.size w' (.slice va ts.length vc) ts))

def ReadRel (cs : List Nat) (W1 : World) (ix : Value) (wr : World) : Prop :=
  ∃ (k : Nat) (xs : List TV) (ts : List Tm) (va : Option Addr) (vc : Nat), ix = .int .i64 (k : Nat) ∧ k ≤ cs.length ∧ ts.length ≤ k ∧
    wr.heap[W1.heap.size + 1]? = some (.cells #[.slice va ts.length vc, .bool true, .bool true] 29 (0, 0)) ∧
    TIx W1.heap.size (W1.heap.size + 1) wr (.slice va ts.length vc) xs ts ∧ readR cs = (readR (cs.drop k)).pre ts ∧ Below W1.heap.size W1 wr

theorem blk3 {w : World} {g : Nat} {a b c : Value} {t : TypeId} (h : w.heap[g]? = some (.cells #[a, b, c] t (0, 0))) :
    w.cell? ⟨g, 0, none⟩ = some a ∧ w.cell? ⟨g, 1, none⟩ = some b ∧ w.cell? ⟨g, 2, none⟩ = some c ∧ w.frozen? ⟨g, 0, none⟩ = false ∧ w.frozen? ⟨g, 1, none⟩ = false ∧ w.frozen? ⟨g, 2, none⟩ = false := by
  simp [World.cell?, World.frozen?, h]
theorem set0 {w : World} {g : Nat} {a b c : Value} {t : TypeId} (h : w.heap[g]? = some (.cells #[a, b, c] t (0, 0))) (a' : Value) : (w.setCell ⟨g, 0, none⟩ a').heap[g]? = some (.cells #[a', b, c] t (0, 0)) := by
  have hlt := lt_of_block h
  have h' : w.heap[g] = .cells #[a, b, c] t (0, 0) := by simpa [Array.getElem?_eq_getElem hlt] using h
  show (w.heap.modify g _)[g]? = _
  rw [Array.getElem?_eq_getElem (by simpa using hlt), Array.getElem_modify_self, h']
  rfl
theorem set3_grown (w : World) (g : Nat) (a b c : Value) : w.grownBy (((w.setCell ⟨g, 0, none⟩ a).setCell ⟨g, 1, none⟩ b).setCell ⟨g, 2, none⟩ c) (some g) :=
  ((show w.grownBy (w.setCell ⟨g, 0, none⟩ a) (some g) from grownBy_setCell w g 0 a 0).trans (grownBy_setCell _ g 1 b 0)).trans (grownBy_setCell _ g 2 c 0)

theorem frz_grow {w w4 : World} {n i : Nat} {o : Obj} {r : Option Nat} (hg : (w.alloc o).drew.grownBy w4 r) (h : n < w.heap.size) (hr : some n ≠ r) (hf : w.frozen? ⟨n, i, none⟩ = false) : w4.frozen? ⟨n, i, none⟩ = false := by
  have e : w4.heap[n]? = w.heap[n]? := (hg.block n (by show n < (w.alloc o).heap.size; simp; omega) hr).trans ((World.grownBy_alloc w o none).block n h (by simp))
  unfold World.frozen? at hf ⊢
  simp only at hf ⊢
  rw [e]
  exact hf

theorem cell_grow {w w4 : World} {n i : Nat} {o : Obj} {v : Value} {r : Option Nat} (hg : (w.alloc o).drew.grownBy w4 r) (h : n < w.heap.size) (hr : some n ≠ r) (hf : w.cell? ⟨n, i, none⟩ = some v) : w4.cell? ⟨n, i, none⟩ = some v := by
  have e : w4.heap[n]? = w.heap[n]? := (hg.block n (by show n < (w.alloc o).heap.size; simp; omega) hr).trans ((World.grownBy_alloc w o none).block n h (by simp))
  exact (World.cell?_of_block (a := ⟨n, i, none⟩) e).trans hf

/-- The end of a round that appends a term. -/
theorem read_round {cs : List Nat} {W1 wr w4 : World} {k j : Nat} {xs : List TV} {ts : List Tm} {va : Option Addr} {vc g cap : Nat} {x : TV} {t : Tm} {o : Obj} (hj : j ≤ cs.length) (hkj : k < j) (hts : ts.length ≤ k)
    (hb4 : wr.heap[W1.heap.size + 1]? = some (.cells #[.slice va ts.length vc, .bool true, .bool true] 29 (0, 0)))
    (hT : TIx W1.heap.size (W1.heap.size + 1) wr (.slice va ts.length vc) xs ts) (hr : readR (cs.drop k) = (readR (cs.drop j)).push t) (hR : readR cs = (readR (cs.drop k)).pre ts) (hB : Below W1.heap.size W1 wr)
    (ht : TmAt W1.heap.size wr x t) (hx : ∀ q, x.rv.ownBlock = some q → (Value.slice va ts.length vc).ownBlock ≠ some q ∧ q ≠ W1.heap.size + 1)
    (hown : w4.ownsRow W1.heap.size 33 4 (.slice (some ⟨g, 0, none⟩) (xs.length + 1) cap) (xs.length + 1) (tcells xs ++ x.cells)) (hg : (wr.alloc o).grownBy w4 (Value.slice va ts.length vc).ownBlock) (hat : (Value.slice va ts.length vc).ownBlock = some g ∨ g = wr.heap.size + 1) :
    w4.heap[W1.heap.size + 1]? = some (.cells #[.slice va ts.length vc, .bool true, .bool true] 29 (0, 0)) ∧
    ∀ ix, ix = .int .i64 (j : Nat) → ReadRel cs W1 ix (w4.setCell ⟨W1.heap.size + 1, 0, none⟩ (.slice (some ⟨g, 0, none⟩) (xs.length + 1) cap)) := by
  have hxt := hT.2.1
  have hG1 : wr.grownBy w4 (Value.slice va ts.length vc).ownBlock := ⟨hg.os, hg.tape, hg.output, by have := hg.size; simp at this; omega, fun q hq hqn => (hg.block q (by simp; omega) hqn).trans ((World.grownBy_alloc wr o none).block q hq (by simp))⟩
  have hlt := lt_of_block hb4
  have hb4' := (hG1.block (W1.heap.size + 1) hlt (fun e => hT.1 e.symm)).trans hb4
  have hT' := TIx.snoc hT ht hx hlt hown hG1 hat
  refine ⟨hb4', fun ix hix => ?_⟩
  rw [hxt]
  have hsg : w4.grownBy (w4.setCell ⟨W1.heap.size + 1, 0, none⟩ (.slice (some ⟨g, 0, none⟩) (ts.length + 1) cap)) (some (W1.heap.size + 1)) := grownBy_setCell w4 _ 0 _ 0
  refine ⟨j, xs ++ [x], ts ++ [t], some ⟨g, 0, none⟩, cap, hix, hj, by simp; omega, ?_, ?_, ?_, ?_⟩
  · rw [List.length_append]
    exact set0 hb4' _
  · rw [List.length_append]
    exact hT'.grown hsg (fun q e => by injection e with e; exact e.symm)
  · rw [hR, hr, RR.pre_push]
  · exact (hB.grown hG1 hB.size (fun q e => (hT.2.2.1.lt q e).1)).setCell (by show W1.heap.size ≤ W1.heap.size + 1; omega) _

set_option maxRecDepth 100000 in
set_option maxHeartbeats 4000000 in
theorem read_call (l : Bs) (w : World) (hl : l.length ≤ 100000000) :
    Calls Tryd.prog 10 #[S l] w (ReadPost (runes l) w) := by
  obtain ⟨i0, hi, hz0, hz1, hz2⟩ := info_parts infoT
  obtain ⟨cp, W1, hcv, hra, hg1, hsz1⟩ := conv_runes (w.alloc (.cells #[.slice none 0 0, .bool false, .bool false] 29)) l (by omega)
  have hsz0 : (w.alloc (.cells #[.slice none 0 0, .bool false, .bool false] 29)).heap.size = w.heap.size + 1 := by simp
  rw [hsz0] at hcv hra hsz1
  have hlen := runes_len _ l (Nat.le_refl _)
  have HB1 : Hid (Below w.heap.size w W1) := Lib.hid (((Below.refl _ w).alloc (Nat.le_refl _) _).grown hg1 (by simp) (fun _ e => by cases e))
  have HW2 : Hid (W1.heap[w.heap.size]? = some (.cells #[.slice none 0 0, .bool false, .bool false] 29 (0, 0))) := Lib.hid ((hg1.block w.heap.size (by simp) (by simp)).trans (heap_alloc_new w _))
  have HRA := Lib.hid hra
  have hs1 : w.heap.size + 2 ≤ W1.heap.size := by omega
  clear hra hg1 hsz1 hsz0
  generalize runes l = cs at *
  go_enter Tryd.func10, Tryd.ntmps10
  go_wp2
  clear hcv
  go_loopw [5] (fun ix wr => ReadRel cs W1 ix wr) (fun ix _ => cs.length - (intOf ix).toNat)
  case atStart =>
    have e1 : (W1.alloc (.cells #[] 33)).heap.size = W1.heap.size + 1 := by simp
    refine ⟨0, [], [], some ⟨W1.heap.size, 0, none⟩, 0, rfl, by omega, by simp, ?_, ⟨?_, rfl, ?_, fun j x t hx => by simp at hx⟩, ?_, ?_⟩
    · have := heap_alloc_new (W1.alloc (.cells #[] 33)) (.cells #[.slice (some ⟨W1.heap.size, 0, none⟩) 0 0, .bool true, .bool true] 29)
      rw [e1] at this
      exact this
    · intro e
      injection e with e
      exact absurd (show W1.heap.size = W1.heap.size + 1 from e) (by omega)
    · exact (World.ownsRow_made W1 #[] 0 (Nat.le_refl _) (by unfold maxLen; omega) rfl).alloc _
    · exact (RR.pre_nil _).symm
    · exact ((Below.refl _ W1).alloc (Nat.le_refl _) _).alloc (by simp) _
  case round =>
    obtain ⟨k, xs, ts, va, vc, rfl, hk, htk, hb4, hTI, hrd, hbel⟩ := hrel
    have HT := Lib.hid hTI
    have HQ := Lib.hid hrd
    have HBel := Lib.hid hbel
    have HB4 := Lib.hid hb4
    have hs4 := lt_of_block hb4
    have hxl := hTI.2.1
    have HRW := Lib.hid (HRA.out.below hbel)
    have HGB : Hid (Below w.heap.size w wr) := Lib.hid (HB1.out.trans (hbel.mono (by omega)))
    have hb2 := (hbel.block w.heap.size (by omega)).trans HW2.out
    have HB2 := Lib.hid hb2
    obtain ⟨c40, c41, c42, f40, f41, f42⟩ := blk3 hb4
    have hxb : xs.length ≤ 100000000 := by omega
    clear hTI hrd hbel hb4 hb2 hxl
    by_cases hkl : k < cs.length
    · obtain ⟨c, g, o, hck, e', hg, c1⟩ := HRW.out.get hkl
      injection e' with e'
      injection e' with e1 e2
      subst e1
      subst e2
      rw [Nat.zero_add] at c1
      have HD := Lib.hid (drop_cons hck)
      clear hck
      by_cases c42' : c = 42
      · subst c42'
        have HX : Hid (readR (cs.drop k) = (readR (cs.drop (k + 1))).push Tm.star) := Lib.hid (by rw [HD.out, readR_cons, if_pos rfl])
        clear HD HB2
        go_wp2_with (at_builtin; refine wpList_append_lies _ rfl _ _ 27 rfl W1.heap.size 33 i0 (.agg #[.int .i64 0, .int .i32 0, .bool false, .slice none 0 0]) 4 40 Tryd.underlying27 hi hz0 hz1 hz2 rfl (by decide) _ _ _ rfl (HT.out.2.2.1.alloc _) ⟨wr.heap.size, 0, none⟩ 1 1 [.int .i64 0, .int .i32 0, .bool false, .slice none 0 0] rfl rfl ?c1a ?c2a (by decide) ?c3a ?c4a ?c5a (wr.heap.size + 1) ?c6a ?_)
        try (case c1a => exact four_cells _ _ _ _ _ _)
        try (case c2a => first | exact ⟨rfl, rfl, rfl, rfl⟩ | (intro u hu; simp at hu; rcases hu with rfl | rfl | rfl | rfl <;> rfl))
        try (case c3a => unfold maxLen; omega)
        try (case c4a => omega)
        try (case c5a => first | omega | (simp; omega))
        try (case c6a => simp)
        · intro g4 cap4 w4 hown' hgrow hat hlt4
          obtain ⟨hb4', hrr⟩ := read_round (j := k + 1) (x := ⟨0, 0, false, .slice none 0 0⟩) (t := Tm.star) (by omega) (by omega) htk HB4.out HT.out HX.out HQ.out HBel.out (TmAt.nil 0 0) (fun q hq => by cases hq) hown' hgrow hat
          have HREL := Lib.hid hrr
          obtain ⟨d0, d1, d2, g0, g1, g2⟩ := blk3 hb4'
          clear hown' hgrow hat hlt4 hrr hb4' HT HX HQ HBel HB4 HRA HW2 HB1 HRW HGB c40 c41 c42 f40 f41 f42 c1
          go_wp2
          go_roundw
          case rel => exact HREL.out _ (by go_num)
          case measure => simp [intOf]; omega
      · have b42 : (((c : Nat) : Int) == 42) = false := by simp; omega
        by_cases c63 : c = 63
        · subst c63
          have HX : Hid (readR (cs.drop k) = (readR (cs.drop (k + 1))).push Tm.any) := Lib.hid (by rw [HD.out, readR_cons, if_neg c42', if_pos rfl])
          clear HD HB2 c42'
          go_wp2_with (at_builtin; refine wpList_append_lies _ rfl _ _ 27 rfl W1.heap.size 33 i0 (.agg #[.int .i64 0, .int .i32 0, .bool false, .slice none 0 0]) 4 40 Tryd.underlying27 hi hz0 hz1 hz2 rfl (by decide) _ _ _ rfl (HT.out.2.2.1.alloc _) ⟨wr.heap.size, 0, none⟩ 1 1 [.int .i64 1, .int .i32 0, .bool false, .slice none 0 0] rfl rfl ?c1b ?c2b (by decide) ?c3b ?c4b ?c5b (wr.heap.size + 1) ?c6b ?_)
          try (case c1b => exact four_cells _ _ _ _ _ _)
          try (case c2b => first | exact ⟨rfl, rfl, rfl, rfl⟩ | (intro u hu; simp at hu; rcases hu with rfl | rfl | rfl | rfl <;> rfl))
          try (case c3b => unfold maxLen; omega)
          try (case c4b => omega)
          try (case c5b => first | omega | (simp; omega))
          try (case c6b => simp)
          · intro g4 cap4 w4 hown' hgrow hat hlt4
            obtain ⟨hb4', hrr⟩ := read_round (j := k + 1) (x := ⟨1, 0, false, .slice none 0 0⟩) (t := Tm.any) (by omega) (by omega) htk HB4.out HT.out HX.out HQ.out HBel.out (TmAt.nil 1 0) (fun q hq => by cases hq) hown' hgrow hat
            have HREL := Lib.hid hrr
            obtain ⟨d0, d1, d2, g0, g1, g2⟩ := blk3 hb4'
            clear hown' hgrow hat hlt4 hrr hb4' HT HX HQ HBel HB4 HRA HW2 HB1 HRW HGB c40 c41 c42 f40 f41 f42 c1
            go_wp2
            go_roundw
            case rel => exact HREL.out _ (by go_num)
            case measure => simp [intOf]; omega
        · have b63 : (((c : Nat) : Int) == 63) = false := by simp; omega
          by_cases c91 : c = 91
          · subst c91
            have hcall := Lib.hid (class_call _ cs.length cp (k + 1) cs wr HRW.out (by omega) (by omega))
            have hvl : Hid (∀ q, (Value.slice va ts.length vc).ownBlock = some q → q < wr.heap.size) := Lib.hid (fun q hq => (HT.out.2.2.1.lt q hq).2)
            go_wp2_with fail
            refine hcall.out.mono ?_
            rintro e w2 ⟨hb, ⟨s, b, ra, rn, rc, y, hcl, rfl⟩ | ⟨rs, j, ra, rn, rc, hcl, hkj, hjl, hrl, rfl, hrg, hrb⟩⟩
            · have hb2 := (hb.block w.heap.size (by omega)).trans HB2.out
              have HX : Hid (readR cs = .bad s) := Lib.hid (by rw [HQ.out, HD.out, readR_cons, if_neg (by decide), if_neg (by decide), if_pos rfl, hcl]; rfl)
              have HG2 : Hid (Below w.heap.size w w2) := Lib.hid (HGB.out.trans (hb.mono HGB.out.size))
              have HB2' := Lib.hid hb2
              clear hb hb2 hcl hcall HD HT HQ HBel HB4 HRA HW2 HB1 HRW HGB HB2 hvl c40 c41 c42 f40 f41 f42 c1
              have hlt2 := lt_of_block HB2'.out
              go_wp2_with fail
              refine (bad_call s _).mono ?_
              rintro e w3 ⟨rfl, hb3⟩
              have hb2' : w3.heap[w.heap.size]? = _ := (hb3.block w.heap.size (by simp; omega)).trans (((World.grownBy_alloc w2 (.cells #[.int .i64 2, .int .i32 0, .bool b, .slice ra rn rc] 33) none).block w.heap.size hlt2 (by simp)).trans HB2'.out)
              have HG3 : Hid (Below w.heap.size w w3) := Lib.hid ((HG2.out.alloc HG2.out.size _).trans (hb3.mono (by have := HG2.out.size; simp; omega)))
              obtain ⟨d0, d1, d2, g0, g1, g2⟩ := blk3 hb2'
              clear hb3 hb2' HG2 HB2'
              go_wp2
              refine bodyPost_ret (v := .agg #[.slice none 0 0, .bool false, .bool s]) (by simp [results, Tryd.results10, go_sem, d0, d1, d2]) rfl ?_
              exact ⟨HG3.out.grown (set3_grown w3 w.heap.size _ _ _) HG3.out.size (fun j e => by injection e with e; omega), .inl ⟨s, HX.out, rfl⟩⟩
            · generalize hN : (classR (cs.drop (k + 1))).1 = NB
              have HX : Hid (readR (cs.drop k) = (readR (cs.drop j)).push (Tm.cls NB rs)) := Lib.hid (by rw [HD.out, readR_cons, if_neg (by decide), if_neg (by decide), if_pos rfl, hcl, hN])
              have hgA : wr.grownBy (w2.alloc (.cells #[.int .i64 2, .int .i32 0, .bool NB, .slice ra rn rc] 33)) none := World.grownBy.trans ⟨hb.os, hb.tape, hb.output, hb.size, fun q hq _ => hb.block q hq⟩ (World.grownBy_alloc w2 _ none)
              have HT2 := Lib.hid (HT.out.grown hgA (fun q e => by cases e))
              have hb4' := (hgA.block _ hs4 (by simp)).trans HB4.out
              have HB4' := Lib.hid hb4'
              have HBel2 : Hid (Below W1.heap.size W1 (w2.alloc (.cells #[.int .i64 2, .int .i32 0, .bool NB, .slice ra rn rc] 33))) := Lib.hid (HBel.out.grown hgA HBel.out.size (fun q e => by cases e))
              have HTM : Hid (TmAt W1.heap.size (w2.alloc (.cells #[.int .i64 2, .int .i32 0, .bool NB, .slice ra rn rc] 33)) ⟨2, 0, NB, .slice ra rn rc⟩ (Tm.cls NB rs)) := Lib.hid ⟨rfl, rfl, rfl, hrg.grown (World.grownBy_alloc w2 _ none) (fun q _ e => by cases e), fun q hq => ⟨by have := (hrb q hq).1; have := HBel.out.size; omega, by have := (hrb q hq).2; simp; omega⟩⟩
              have HXB : Hid (∀ q, (Value.slice ra rn rc).ownBlock = some q → (Value.slice va ts.length vc).ownBlock ≠ some q ∧ q ≠ W1.heap.size + 1) := Lib.hid (fun q hq => ⟨fun e => by have := hvl.out q e; have := (hrb q hq).1; omega, by have := (hrb q hq).1; omega⟩)
              have hs2 : W1.heap.size + 1 < w2.heap.size := Nat.lt_of_lt_of_le hs4 hb.size
              obtain ⟨c40', c41', c42', f40', f41', f42'⟩ := blk3 hb4'
              have hs3 : W1.heap.size ≤ w2.heap.size := by omega
              clear hb hcl hN hrg hrb hgA hb4' hcall HD HT HBel HB4 HRA HW2 HB1 HRW HGB HB2 hvl c40 c41 c42 f40 f41 f42 c1
              go_wp2_with (at_builtin; refine wpList_append_lies _ rfl _ _ 27 rfl W1.heap.size 33 i0 (.agg #[.int .i64 0, .int .i32 0, .bool false, .slice none 0 0]) 4 40 Tryd.underlying27 hi hz0 hz1 hz2 rfl (by decide) _ _ _ rfl (HT2.out.2.2.1.alloc _) ⟨w2.heap.size + 1, 0, none⟩ 1 1 [.int .i64 2, .int .i32 0, .bool NB, .slice ra rn rc] rfl rfl ?c1c ?c2c (by decide) ?c3c ?c4c ?c5c (w2.heap.size + 1 + 1) ?c6c ?_)
              try (case c1c => first | exact four_cells _ _ _ _ _ _ | (have := four_cells (w2.alloc (.cells #[.int .i64 2, .int .i32 0, .bool NB, .slice ra rn rc] 33)) (.int .i64 2) (.int .i32 0) (.bool NB) (.slice ra rn rc) 33; rwa [show (w2.alloc (.cells #[.int .i64 2, .int .i32 0, .bool NB, .slice ra rn rc] 33)).heap.size = w2.heap.size + 1 by simp] at this))
              try (case c2c => first | exact ⟨rfl, rfl, rfl, rfl⟩ | (intro u hu; simp at hu; rcases hu with rfl | rfl | rfl | rfl <;> rfl))
              try (case c3c => unfold maxLen; omega)
              try (case c4c => omega)
              try (case c5c => first | omega | (simp; omega))
              try (case c6c => simp)
              · intro g4 cap4 w4 hown' hgrow hat hlt4
                obtain ⟨hb4', hrr⟩ := read_round (j := j) (x := ⟨2, 0, NB, .slice ra rn rc⟩) (t := Tm.cls NB rs) (by omega) (by omega) htk HB4'.out HT2.out HX.out HQ.out HBel2.out HTM.out HXB.out hown' hgrow (by simpa using hat)
                have HREL := Lib.hid hrr
                obtain ⟨d0, d1, d2, g0, g1, g2⟩ := blk3 hb4'
                clear hown' hgrow hat hlt4 hrr hb4' HT2 HX HQ HBel2 HB4' HTM HXB c40' c41' c42' f40' f41' f42'
                go_wp2
                go_roundw
                case rel => exact HREL.out _ (by go_num)
                case measure => simp [intOf]; omega
          · have b91 : (((c : Nat) : Int) == 91) = false := by simp; omega
            by_cases c92 : c = 92
            · subst c92
              by_cases h2 : k + 1 = cs.length
              · have h2' : (((k : Nat) : Int) + 1 == ((cs.length : Nat) : Int)) = true := by simp; omega
                have HX : Hid (readR cs = .bad true) := Lib.hid (by rw [HQ.out, HD.out, readR_cons, if_neg (by decide), if_neg (by decide), if_neg (by decide), if_pos rfl, List.drop_eq_nil_of_le (by omega)]; rfl)
                clear HD HT HQ HBel HB4 HRA HW2 HB1 HRW c40 c41 c42 f40 f41 f42 h2
                have hlt2 := lt_of_block HB2.out
                go_wp2_with fail
                refine (bad_call true _).mono ?_
                rintro e w3 ⟨rfl, hb3⟩
                have hb2' : w3.heap[w.heap.size]? = _ := (hb3.block w.heap.size hlt2).trans HB2.out
                have HG3 : Hid (Below w.heap.size w w3) := Lib.hid (HGB.out.trans (hb3.mono HGB.out.size))
                obtain ⟨d0, d1, d2, g0, g1, g2⟩ := blk3 hb2'
                clear hb3 hb2' HGB HB2
                go_wp2
                refine bodyPost_ret (v := .agg #[.slice none 0 0, .bool false, .bool true]) (by simp [results, Tryd.results10, go_sem, d0, d1, d2]) rfl ?_
                exact ⟨HG3.out.grown (set3_grown w3 w.heap.size _ _ _) HG3.out.size (fun j e => by injection e with e; omega), .inl ⟨true, HX.out, rfl⟩⟩
              · obtain ⟨d, g', o', hd, e', hg', cd⟩ := HRW.out.get (i := k + 1) (by omega)
                injection e' with e'
                injection e' with e1 e2
                subst e2
                rw [← e1, Nat.zero_add] at cd
                have HX : Hid (readR (cs.drop k) = (readR (cs.drop (k + 2))).push (Tm.chr' d)) := Lib.hid (by rw [HD.out, readR_cons, if_neg (by decide), if_neg (by decide), if_neg (by decide), if_pos rfl, drop_cons hd])
                have h2' : (((k : Nat) : Int) + 1 == ((cs.length : Nat) : Int)) = false := by simp; omega
                have hk3 : (k : Int) + 1 < (cs.length : Int) := by omega
                have hk4 : k + 1 < cs.length := by omega
                clear hd hg' h2 e1
                have hnb : some (W1.heap.size + 1) ≠ (Value.slice va ts.length vc).ownBlock := fun e => HT.out.1 e.symm
                have hnc : some (w.heap.size + 1) ≠ (Value.slice va ts.length vc).ownBlock := fun e => by have := (HT.out.2.2.1.lt _ e.symm).1; omega
                have HNB := Lib.hid hnb
                have HF40 := Lib.hid f40
                have HC40 := Lib.hid c40
                have HNC := Lib.hid hnc
                have hk0 : (0 : Int) ≤ (k : Int) := by omega
                have hk1 : (k : Int) < (cs.length : Int) := by omega
                have hk2 : (0 : Int) ≤ (k : Int) + 1 := by omega
                clear hnb hnc HD HB2 HRA HW2 HB1 HRW HGB
                go_wp2_with fail
                go_region_law ((refine step_append_lies _ (by rfl) _ _ _ (by rfl) W1.heap.size 33 i0 _ 4 40 Tryd.underlying27 hi hz0 hz1 hz2 rfl (by omega) _ xs.length (tcells xs) (by rfl) ((HT.out.2.2.1.alloc _).drew) ⟨wr.heap.size, 0, none⟩ 1 1 [.int .i64 3, .int .i32 (d : Nat), .bool false, .slice none 0 0] (by rfl) (by rfl) (World.news_of_block (cs := #[.int .i64 3, .int .i32 (d : Nat), .bool false, .slice none 0 0]) (t := 33) (fr := (0, 0)) (heap_alloc_new wr _)) (by simp [Value.oneCell']) (by omega) (by unfold maxLen; omega) (by omega) (by simp; omega) (wr.heap.size + 1) (by simp) ?_; intro g4 cap4 w4 hown' hgrow hat hlt4; have hfz := frz_grow hgrow hs4 HNB.out HF40.out; have hc4 := cell_grow hgrow hs4 HNB.out HC40.out))
                all_goals
                  obtain ⟨hb4', hrr⟩ := read_round (o := .cells #[.int .i64 3, .int .i32 (d : Nat), .bool false, .slice none 0 0] 33) (j := k + 2) (x := ⟨3, (d : Nat), false, .slice none 0 0⟩) (t := Tm.chr' d) (by omega) (by omega) htk HB4.out HT.out HX.out HQ.out HBel.out (TmAt.nil 3 d) (fun q hq => by cases hq) hown' ⟨hgrow.os, hgrow.tape, hgrow.output, hgrow.size, hgrow.block⟩ hat
                  have HREL := Lib.hid hrr
                  clear hown' hgrow hat hlt4 hrr hb4' HT HX HQ HBel HB4 HNB HNC c40 c41 c42 f40 f41 f42
                  go_wp2
                  go_roundw
                  case rel => exact HREL.out _ (by go_num)
                  case measure => simp [intOf]; omega
            · have b92 : (((c : Nat) : Int) == 92) = false := by simp; omega
              have HX : Hid (readR (cs.drop k) = (readR (cs.drop (k + 1))).push (Tm.chr' c)) := Lib.hid (by rw [HD.out, readR_cons, if_neg c42', if_neg c63, if_neg c91, if_neg c92])
              clear c42' c63 c91 c92
              have hnb : some (W1.heap.size + 1) ≠ (Value.slice va ts.length vc).ownBlock := fun e => HT.out.1 e.symm
              have hnc : some (w.heap.size + 1) ≠ (Value.slice va ts.length vc).ownBlock := fun e => by have := (HT.out.2.2.1.lt _ e.symm).1; omega
              have HNB := Lib.hid hnb
              have HF40 := Lib.hid f40
              have HC40 := Lib.hid c40
              have HNC := Lib.hid hnc
              have hk0 : (0 : Int) ≤ (k : Int) := by omega
              have hk1 : (k : Int) < (cs.length : Int) := by omega
              have hk2 : (0 : Int) ≤ (k : Int) + 1 := by omega
              clear hnb hnc HD HB2 HRA HW2 HB1 HRW HGB
              go_wp2_with fail
              go_region_law ((refine step_append_lies _ (by rfl) _ _ _ (by rfl) W1.heap.size 33 i0 _ 4 40 Tryd.underlying27 hi hz0 hz1 hz2 rfl (by omega) _ xs.length (tcells xs) (by rfl) ((HT.out.2.2.1.alloc _).drew) ⟨wr.heap.size, 0, none⟩ 1 1 [.int .i64 3, .int .i32 (c : Nat), .bool false, .slice none 0 0] (by rfl) (by rfl) (World.news_of_block (cs := #[.int .i64 3, .int .i32 (c : Nat), .bool false, .slice none 0 0]) (t := 33) (fr := (0, 0)) (heap_alloc_new wr _)) (by simp [Value.oneCell']) (by omega) (by unfold maxLen; omega) (by omega) (by simp; omega) (wr.heap.size + 1) (by simp) ?_; intro g4 cap4 w4 hown' hgrow hat hlt4; have hfz := frz_grow hgrow hs4 HNB.out HF40.out; have hc4 := cell_grow hgrow hs4 HNB.out HC40.out))
              all_goals
                obtain ⟨hb4', hrr⟩ := read_round (o := .cells #[.int .i64 3, .int .i32 (c : Nat), .bool false, .slice none 0 0] 33) (j := k + 1) (x := ⟨3, (c : Nat), false, .slice none 0 0⟩) (t := Tm.chr' c) (by omega) (by omega) htk HB4.out HT.out HX.out HQ.out HBel.out (TmAt.nil 3 c) (fun q hq => by cases hq) hown' ⟨hgrow.os, hgrow.tape, hgrow.output, hgrow.size, hgrow.block⟩ hat
                have HREL := Lib.hid hrr
                clear hown' hgrow hat hlt4 hrr hb4' HT HX HQ HBel HB4 HNB HNC c40 c41 c42 f40 f41 f42
                go_wp2
                go_roundw
                case rel => exact HREL.out _ (by go_num)
                case measure => simp [intOf]; omega
    · obtain rfl : k = cs.length := by omega
      obtain ⟨d0, d1, d2, g0, g1, g2⟩ := blk3 HB2.out
      have HG : Hid (ReadPost cs w (.returned (.agg #[.slice va ts.length vc, .bool true, .bool true])) (((wr.setCell ⟨w.heap.size, 0, none⟩ (.slice va ts.length vc)).setCell ⟨w.heap.size, 1, none⟩ (.bool true)).setCell ⟨w.heap.size, 2, none⟩ (.bool true))) := by
        apply Lib.hid
        refine ⟨HGB.out.grown (set3_grown wr w.heap.size _ _ _) HGB.out.size (fun j e => by injection e with e; omega), .inr ⟨ts, va, vc, ?_, rfl, ?_⟩⟩
        · rw [HQ.out, List.drop_eq_nil_of_le (Nat.le_refl _), readR_nil]
          show RR.good (ts ++ []) = _
          rw [List.append_nil]
        · exact (HT.out.is.rd.grown (set3_grown wr w.heap.size _ _ _) (fun j e => by injection e with e; omega)).low (by omega)
      clear HT HQ HBel HB4 HRA HW2 HB1 HRW HGB HB2
      go_wp2
      refine bodyPost_ret (v := .agg #[.slice va ts.length vc, .bool true, .bool true]) (by simp [results, Tryd.results10, go_sem, d0, d1, d2]) rfl ?_
      exact HG.out

end Go.Proofs.YtcoaoheakeodoaaDoor

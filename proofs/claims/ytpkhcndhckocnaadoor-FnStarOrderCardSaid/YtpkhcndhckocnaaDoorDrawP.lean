/-
  DrawParts: its contract. Conditions: none beyond those of each theorem.
-/
import Derived.Test.YtpkhcndhckocnaaDoorDrawE
namespace Go.Proofs.YtpkhcndhckocnaaDoor
open Go.ChangeShapes Go.WideShapes Go.ChangeAt Go.RowKit

theorem Strs.base {B B' : Nat} {w : World} {v : Value} {ss : List ByteArray} (h : Strs B w v ss) (hB : B' ≤ B) : Strs B' w v ss := by
  obtain ⟨⟨h1, h2⟩, h3⟩ := h
  refine ⟨⟨h1, ?_⟩, h3⟩
  rcases h2 with h2 | ⟨g, cap, cur, e1, e2, r⟩
  · exact .inl h2
  · exact .inr ⟨g, cap, cur, e1, by omega, r⟩
theorem Strs.made (w : World) (B k : Nat) (hk : w.heap.size = k) (hB : B ≤ k) : Strs B (w.alloc (.cells #[] 9)) (.slice (some ⟨k, 0, none⟩) 0 0) [] := by
  subst hk
  exact ⟨World.ownsRow_made w #[] 0 hB (by unfold maxLen; omega) rfl, by simp⟩

def PartsRel (w : World) (out n : Value) (wr : World) : Prop :=
  ∃ (k : Nat) (ss : List ByteArray), n = .int .i64 k ∧ k ≤ 6 ∧ Strs (w.heap.size + 1) wr out ss ∧ tot ss + 13 * k ≤ 78 ∧ Rd w.heap.size wr w.heap.size (100 - 10 * k) ∧ Below w.heap.size w wr ∧ w.heap.size + 1 ≤ wr.heap.size
theorem drawParts_any (a : Option Addr) (len cap : Nat) (zs : List Int) (w : World) (h : IsRow .u8 w a len cap zs) (hlen : len ≤ 1048576) :
    Calls Tryd.prog 29 #[.slice a len cap] w (CutAllPost 1048576 w) := by
  obtain ⟨i0, hi, hz0, hz1, hz2⟩ := info_parts infoStr
  have H0 := Lib.hid h
  clear h
  go_enter Tryd.func29, Tryd.ntmps29
  go_wp2_with fail
  refine (raw_any a len cap zs _ H0.out hlen).mono ?_
  rintro e w' ⟨b, rfl, hb, rfl⟩
  cases b with
  | true =>
    have h1 := hb rfl
    clear hb
    obtain ⟨x, z, rfl, _⟩ := H0.out.byte (i := 0) (by omega)
    have hlc : len ≤ cap := by
      rcases H0.out with ⟨h, _⟩ | ⟨x', hx, hl, _⟩
      · cases h
      · exact hl
    by_cases hc1 : cap = 1
    · obtain rfl : cap = 1 := hc1
      obtain rfl : len = 1 := by omega
      go_wp2_with fail
      refine (cutAll_any (some x) 0 0 [] w IsRow.none_left (by omega)).mono ?_
      rintro e w' ⟨v, ss, rfl, h2, h3, h4⟩
      have H2 := Lib.hid h2
      have H4 := Lib.hid h4
      clear h2 h4
      go_wp2
      go_ret
      exact ⟨v, ss, rfl, H2.out, by omega, H4.out⟩
    · go_wp2_with fail
      refine (cutAll_any (some ⟨x.block, x.off + 1, none⟩) (len - 1) (cap - 1) (zs.drop 1) w (H0.out.part' 1 (len - 1) (by omega) (by omega)) (by omega)).mono ?_
      rintro e w' ⟨v, ss, rfl, h2, h3, h4⟩
      have H2 := Lib.hid h2
      have H4 := Lib.hid h4
      clear h2 h4
      go_wp2
      go_ret
      exact ⟨v, ss, rfl, H2.out, by omega, H4.out⟩
  | false =>
    clear hb
    have hRd0 := Lib.hid (Rd.new w a len cap zs H0.out hlen)
    clear H0
    go_wp2_with fail
    refine (pick_any w.heap.size w.heap.size 0 7 _ (hRd0.out.grown (World.grownBy_alloc _ _ none) (fun k e => by cases e)) (by omega) (by omega)).mono ?_
    rintro e w1 ⟨x, rfl, hx0, hx1, hx2, hRd, hg⟩
    have hO1 : Hid (Strs (w.heap.size + 1) w1 (.slice (some ⟨w.heap.size + 1, 0, none⟩) 0 0) []) := Strs.kept (Strs.made _ _ _ (by simp) (by omega)) hg (fun k hk e => by simp [Value.ownBlock] at hk e; omega)
    have hB1 : Hid (Below w.heap.size w w1) := (((Below.refl _ w).alloc (Nat.le_refl _) _).alloc (by simp) _).grown hg (by simp; omega) (fun k e => by injection e with e; omega)
    have hS1 : w.heap.size + 1 ≤ w1.heap.size := by have := hg.size; simp at this; omega
    have hR1 := Lib.hid hRd
    have hX := hx1 (by omega)
    clear hRd hg hRd0 hx1 hx2
    obtain ⟨k, rfl⟩ := Int.eq_ofNat_of_zero_le hx0
    go_wp2
    go_loopw [4, 5] (fun o n wr => PartsRel w o n wr) (fun _ n _ => (intOf n).toNat)
    case atStart => exact ⟨k, [], rfl, by omega, hO1.out, by show 0 + 13 * k ≤ 78; omega, hR1.out.mono (by omega), hB1.out, hS1⟩
    case round =>
      clear hR1 hB1 hX hx0 hO1 hS1
      obtain ⟨k, ss, rfl, hk, hO, hs, hRd, hBe, hS⟩ := hrel
      have hR := Lib.hid hRd
      have hBel := Lib.hid hBe
      have hOw := Lib.hid hO
      clear hRd hBe hO
      by_cases h0 : 0 < k
      · go_wp2_with fail
        refine (noSlash_any w.heap.size w.heap.size _ 3 _ hR.out (by omega) (by omega) (by omega)).mono ?_
        rintro e w1 ⟨y, rfl, hy, hRd, hg⟩
        have hB1 := Lib.hid (hBel.out.grown hg hBel.out.size (fun k e => by injection e with e; omega))
        have hO1 := Lib.hid (Strs.kept hOw.out hg (fun k hk e => by have := (hOw.out.blk k hk).1; injection e with e; omega))
        have hS1 : w.heap.size + 1 ≤ w1.heap.size := by have := hg.size; omega
        have hR1 := Lib.hid hRd
        clear hRd hg hR hBel
        have tl := tot_len ss
        go_wp2_with (at_builtin; refine wpList_append_own _ rfl _ _ 46 rfl (w.heap.size + 1) 9 i0 (.string ByteArray.empty) 1 16 Tryd.underlying46 hi hz0 hz1 hz2 rfl (by decide) _ _ _ rfl (hO1.out.1.alloc _) ⟨w1.heap.size, 0, none⟩ 1 1 [.string y] rfl rfl ?c1 ?c2 ?c3 ?c4 ?c5 ?_)
        case c1 => exact one_cells _ _ _
        case c2 => intro u hu; simp at hu; subst hu; rfl
        case c3 => unfold maxLen; omega
        case c4 => omega
        case c5 => simp; omega
        · intro v' w2 hown' hgrow hnn
          have hO2 := Lib.hid (Strs.snoc hown' hnn)
          have hne : ∀ k, u4.ownBlock = some k → w.heap.size + 1 ≤ k := fun k hk => (hO1.out.blk k hk).1
          have hR2 := Lib.hid ((hR1.out.grown (World.grownBy_alloc w1 (.cells #[.string y] 9) none) (fun k e => by cases e)).grown hgrow (fun k e => by have := hne _ e; omega))
          have hB2 := Lib.hid ((hB1.out.alloc (by omega) (.cells #[.string y] 9)).grown hgrow (by simp; omega) (fun k e => by have := hne _ e; omega))
          have hS2 : w.heap.size + 1 ≤ w2.heap.size := by have := hgrow.size; simp at this; omega
          clear hown' hgrow hnn
          go_wp2
          go_roundw
          case rel => exact ⟨k - 1, ss ++ [y], by go_num, by omega, hO2.out, by rw [tot_snoc]; omega, hR2.out.mono (by omega), hB2.out, hS2⟩
          case measure => simp [intOf]; omega
      · go_wp2
        go_ret
        exact ⟨_, ss, rfl, hOw.out.base (by omega), by omega, hBel.out⟩

/-- Strings that are read. -/
def StrsRd (w : World) (v : Value) (ss : List ByteArray) : Prop := ∃ g cap, v = .slice (some ⟨g, 0, none⟩) ss.length cap ∧ g < w.heap.size ∧ ∀ (j : Nat) (s : ByteArray), ss[j]? = some s → w.cell? ⟨g, j, none⟩ = some (.string s)
theorem Strs.rd {B : Nat} {w : World} {v : Value} {ss : List ByteArray} (h : Strs B w v ss) : StrsRd w v ss := by
  obtain ⟨g, cap, rfl, h1, h2, h3, h4, h5⟩ := h.shape
  refine ⟨g, cap, rfl, h2, fun j s hj => ?_⟩
  have := World.ownsRow.cells (g := g) h.1 rfl j (.string s) (by rw [List.getElem?_map, hj]; rfl)
  have e : ∀ k, (⟨g, 0, none⟩ : Addr).add k = ⟨g, k, none⟩ := fun k => by unfold Addr.add; split <;> simp_all
  rw [e] at this
  exact this
theorem StrsRd.below {w w' : World} {v : Value} {ss : List ByteArray} (h : StrsRd w v ss) (hb : Below w.heap.size w w') : StrsRd w' v ss := by
  obtain ⟨g, cap, rfl, h1, h2⟩ := h
  exact ⟨g, cap, rfl, Nat.lt_of_lt_of_le h1 hb.size, fun j s hj => (hb.cell (p := ⟨g, j, none⟩) h1).trans (h2 j s hj)⟩
/-- How many letters the first ones have. -/
def letters (ss : List ByteArray) : Nat := (ss.map ByteArray.size).sum
theorem letters_tot (ss : List ByteArray) : letters ss + ss.length = tot ss := rfl
theorem letters_snoc (ss : List ByteArray) (s : ByteArray) : letters (ss ++ [s]) = letters ss + s.size := by simp [letters]
theorem letters_take (ss : List ByteArray) (k : Nat) : letters (ss.take k) ≤ letters ss := by
  have := congrArg letters (List.take_append_drop k ss)
  unfold letters at this ⊢
  rw [List.map_append, List.sum_append] at this
  omega

end Go.Proofs.YtpkhcndhckocnaaDoor

/-
  DrawJoin: its contract. Conditions: none beyond those of each theorem.
-/
import Derived.Test.YtlekeaganaliiaaDrawC
namespace Go.Proofs.Ytlekeaganaliiaa
open Go.ChangeShapes Go.WideShapes Go.ChangeAt Go.RowKit

theorem Strs.base {B B' : Nat} {w : World} {v : Value} {ss : List ByteArray} (h : Strs B w v ss) (hB : B' ≤ B) : Strs B' w v ss := by
  obtain ⟨⟨h1, h2⟩, h3⟩ := h
  refine ⟨⟨h1, ?_⟩, h3⟩
  rcases h2 with h2 | ⟨g, cap, cur, e1, e2, r⟩
  · exact .inl h2
  · exact .inr ⟨g, cap, cur, e1, by omega, r⟩

theorem Strs.made (w : World) (B k : Nat) (hk : w.heap.size = k) (hB : B ≤ k) : Strs B (w.alloc (.cells #[] 9)) (.slice (some ⟨k, 0, none⟩) 0 0) [] := by
  subst hk
  exact ⟨World.ownsRow_made w #[] 0 hB (by unfold maxLen; omega) rfl, by simp⟩

def JoinRel (w : World) (out n : Value) (wr : World) : Prop :=
  ∃ (k : Nat) (ss : List ByteArray), n = .int .i64 k ∧ k ≤ 4 ∧ Strs (w.heap.size + 2) wr out ss ∧ tot ss + 9 * k ≤ 36 ∧ Rd w.heap.size wr w.heap.size (50 - k) ∧ TabAt wr (w.heap.size + 1) 10 8 ∧ Below w.heap.size w wr ∧ w.heap.size + 2 ≤ wr.heap.size
theorem drawJoin_any (a : Option Addr) (len cap : Nat) (zs : List Int) (w : World) (h : IsRow .u8 w a len cap zs) (hlen : len ≤ 1048576) :
    Calls Try.prog 4 #[.slice a len cap] w (CutAllPost 1048576 w) := by
  obtain ⟨i0, hi, hz0, hz1, hz2⟩ := info_parts infoStr
  have H0 := Lib.hid h
  clear h
  go_enter Try.func4, Try.ntmps4
  go_wp2_with fail
  refine (raw_any a len cap zs _ H0.out hlen).mono ?_
  rintro e w' ⟨b, rfl, hb, rfl⟩
  cases b with
  | true =>
    have h1 := hb rfl
    clear hb
    obtain ⟨x, z, rfl, _⟩ := H0.out.byte (i := 0) (by omega)
    have hlc : len ≤ cap := by
      rcases H0.out with ⟨h, _⟩ | ⟨x', hx, hl, _⟩
      · cases h
      · exact hl
    by_cases hc1 : cap = 1
    · obtain rfl : cap = 1 := hc1
      obtain rfl : len = 1 := by omega
      go_wp2_with fail
      refine (cutAll_any (some x) 0 0 [] w IsRow.none_left (by omega)).mono ?_
      rintro e w' ⟨v, ss, rfl, h2, h3, h4⟩
      have H2 := Lib.hid h2
      have H4 := Lib.hid h4
      clear h2 h4
      go_wp2
      go_ret
      exact ⟨v, ss, rfl, H2.out, by omega, H4.out⟩
    · go_wp2_with fail
      refine (cutAll_any (some ⟨x.block, x.off + 1, none⟩) (len - 1) (cap - 1) (zs.drop 1) w (H0.out.part' 1 (len - 1) (by omega) (by omega)) (by omega)).mono ?_
      rintro e w' ⟨v, ss, rfl, h2, h3, h4⟩
      have H2 := Lib.hid h2
      have H4 := Lib.hid h4
      clear h2 h4
      go_wp2
      go_ret
      exact ⟨v, ss, rfl, H2.out, by omega, H4.out⟩
  | false =>
    clear hb
    have hRd0 := Lib.hid (Rd.new w a len cap zs H0.out hlen)
    have hT0 := Lib.hid (TabAt.new (w.alloc (.cells #[.slice a len cap, .int .i64 0] 31)) 9 [⟨#[97]⟩, ⟨#[]⟩, ⟨#[46, 46]⟩, ⟨#[46]⟩, ⟨#[98, 47, 99]⟩, ⟨#[47, 100]⟩, ⟨#[47]⟩, ⟨#[101, 47]⟩, ⟨#[46, 46, 47, 102]⟩, ⟨#[120, 46, 121]⟩] 8 (by decide))
    clear H0
    go_wp2_with fail
    refine (pick_any w.heap.size w.heap.size 0 5 _ ((hRd0.out.grown (World.grownBy_alloc _ _ none) (fun k e => by cases e)).grown (World.grownBy_alloc _ _ none) (fun k e => by cases e)) (by omega) (by omega)).mono ?_
    rintro e w1 ⟨x, rfl, hx0, hx1, hx2, hRd, hg⟩
    have hT1 := Lib.hid ((hT0.out.grown (World.grownBy_alloc _ (.cells #[] 9) none) (by simp)).grown hg (by simp))
    have hO1 : Hid (Strs (w.heap.size + 2) w1 (.slice (some ⟨w.heap.size + 2, 0, none⟩) 0 0) []) := Strs.kept (Strs.made _ _ _ (by simp) (by omega)) hg (fun k hk e => by simp [Value.ownBlock] at hk e; omega)
    have hB1 : Hid (Below w.heap.size w w1) := ((((Below.refl _ w).alloc (Nat.le_refl _) _).alloc (by simp) _).alloc (by simp; omega) _).grown hg (by simp; omega) (fun k e => by injection e with e; omega)
    have hS1 : w.heap.size + 2 ≤ w1.heap.size := by have := hg.size; simp at this; omega
    have hR1 := Lib.hid hRd
    have hX := hx1 (by omega)
    clear hRd hg hT0 hRd0 hx1 hx2
    obtain ⟨k, rfl⟩ := Int.eq_ofNat_of_zero_le hx0
    go_wp2
    go_loopw [5, 6] (fun o n wr => JoinRel w o n wr) (fun _ n _ => (intOf n).toNat)
    case atStart => exact ⟨k, [], rfl, by omega, hO1.out, by show 0 + 9 * k ≤ 36; omega, hR1.out.mono (by omega), (by simpa using hT1.out), hB1.out, hS1⟩
    case round =>
      clear hR1 hT1 hB1 hX hx0 hO1 hS1
      obtain ⟨k, ss, rfl, hk, hO, hs, hRd, hT, hBe, hS⟩ := hrel
      have hR := Lib.hid hRd
      have hTb := Lib.hid hT
      have hBel := Lib.hid hBe
      have hOw := Lib.hid hO
      clear hRd hT hBe hO
      by_cases h0 : 0 < k
      · go_wp2_with fail
        refine (pick_any w.heap.size w.heap.size _ 10 _ hR.out (by omega) (by omega)).mono ?_
        rintro e w1 ⟨x, rfl, hx0, hx1, hx2, hRd, hg⟩
        have hT1 := Lib.hid (hTb.out.grown hg (by simp))
        have hB1 := Lib.hid (hBel.out.grown hg hBel.out.size (fun k e => by injection e with e; omega))
        have hO1 := Lib.hid (Strs.kept hOw.out hg (fun k hk e => by have := (hOw.out.blk k hk).1; injection e with e; omega))
        have hS1 : w.heap.size + 2 ≤ w1.heap.size := by have := hg.size; omega
        have hR1 := Lib.hid hRd
        have hX := hx1 (by omega)
        clear hRd hg hR hTb hBel hx1 hx2
        obtain ⟨y, hcell, hy⟩ := hT1.out.2 x.toNat (by omega)
        have tl := tot_len ss
        go_wp2_with (at_builtin; refine wpList_append_own _ rfl _ _ 23 rfl (w.heap.size + 2) 9 i0 (.string ByteArray.empty) 1 16 Try.underlying23 hi hz0 hz1 hz2 rfl (by decide) _ _ _ rfl (hO1.out.1.alloc _) ⟨w1.heap.size, 0, none⟩ 1 1 [.string y] rfl rfl ?c1 ?c2 ?c3 ?c4 ?c5 ?_)
        case c1 => exact one_cells _ _ _
        case c2 => intro u hu; simp at hu; subst hu; rfl
        case c3 => unfold maxLen; omega
        case c4 => omega
        case c5 => simp; omega
        · intro v' w2 hown' hgrow hnn
          have hO2 := Lib.hid (Strs.snoc hown' hnn)
          have hne : ∀ k, u5.ownBlock = some k → w.heap.size + 2 ≤ k := fun k hk => (hO1.out.blk k hk).1
          have hT2 := Lib.hid ((hT1.out.grown (World.grownBy_alloc w1 (.cells #[.string y] 9) none) (by simp)).grown hgrow (fun e => by have := hne _ e; omega))
          have hR2 := Lib.hid ((hR1.out.grown (World.grownBy_alloc w1 (.cells #[.string y] 9) none) (fun k e => by cases e)).grown hgrow (fun k e => by have := hne _ e; omega))
          have hB2 := Lib.hid ((hB1.out.alloc (by omega) (.cells #[.string y] 9)).grown hgrow (by simp; omega) (fun k e => by have := hne _ e; omega))
          have hS2 : w.heap.size + 2 ≤ w2.heap.size := by have := hgrow.size; simp at this; omega
          clear hown' hgrow hcell hnn
          go_wp2
          go_roundw
          case rel => exact ⟨k - 1, ss ++ [y], by go_num, by omega, hO2.out, by rw [tot_snoc]; omega, hR2.out.mono (by omega), hT2.out, hB2.out, hS2⟩
          case measure => simp [intOf]; omega
      · go_wp2
        go_ret
        exact ⟨_, ss, rfl, hOw.out.base (by omega), by omega, hBel.out⟩

end Go.Proofs.Ytlekeaganaliiaa

/-
  DrawPath and its namesakes: contracts. Conditions: none beyond those of each theorem.
-/
import Derived.Test.YtlekeaganaliiaaDoorDrawB
namespace Go.Proofs.YtlekeaganaliiaaDoor
open Go.ChangeShapes Go.WideShapes Go.ChangeAt Go.RowKit

/-- A string of at most so many bytes; nothing that was there has changed. -/
def StrPost (n : Nat) (w : World) (e : Ending) (w' : World) : Prop := ∃ s : ByteArray, e = .returned (.string s) ∧ s.size ≤ n ∧ Below w.heap.size w w'

/-- The same, the string as a list of bytes. -/
def ListPost (n : Nat) (w : World) (e : Ending) (w' : World) : Prop := ∃ l : List UInt8, e = .returned (.string ⟨l.toArray⟩) ∧ l.length ≤ n ∧ Below w.heap.size w w'
theorem StrPost.list {n : Nat} {w w' : World} {e : Ending} (h : StrPost n w e w') : ListPost n w e w' := by
  obtain ⟨⟨⟨l⟩⟩, rfl, h2, h3⟩ := h
  exact ⟨l, rfl, h2, h3⟩

/-- A table of strings in a block. -/
def TabAt (w : World) (B n m : Nat) : Prop := B < w.heap.size ∧ ∀ i, i < n → ∃ s : ByteArray, w.cell? ⟨B, i, none⟩ = some (.string s) ∧ s.size ≤ m

theorem TabAt.grown {w w' : World} {B n m : Nat} {r : Option Nat} (h : TabAt w B n m) (hg : w.grownBy w' r) (hr : r ≠ some B) : TabAt w' B n m :=
  ⟨Nat.lt_of_lt_of_le h.1 hg.size, fun i hi => by
    obtain ⟨s, h1, h2⟩ := h.2 i hi
    exact ⟨s, hg.cell h1 (fun e => hr e.symm), h2⟩⟩

theorem TabAt.new (w : World) (t : TypeId) (ss : List ByteArray) (m : Nat) (hm : ∀ s ∈ ss, s.size ≤ m) : TabAt (w.alloc (.cells (ss.map Value.string).toArray t)) w.heap.size ss.length m :=
  ⟨by simp, fun i hi => ⟨ss[i], by
    unfold World.cell?
    rw [heap_alloc_new]
    simp [hi], hm _ (List.getElem_mem hi)⟩⟩

theorem Rd.grown {base : Nat} {w w' : World} {B : Nat} {m : Int} {r : Option Nat} (h : Rd base w B m) (hg : w.grownBy w' r) (hr : ∀ k, r = some k → base ≤ k ∧ k ≠ B) : Rd base w' B m := by
  obtain ⟨a, len, cap, zs, p, h1, h2, h3, h4, h5, h6, h7⟩ := h
  refine ⟨a, len, cap, zs, p, h1, h2, h3, h4.grown hg (fun x hx hc e => ?_), ?_, h6, h7⟩
  · have := h2 x hx hc
    have := (hr _ e.symm).1
    omega
  · rw [hg.block B (lt_of_block h5) (fun e => (hr _ e.symm).2 rfl)]
    exact h5

theorem Rd.new (w : World) (a : Option Addr) (len cap : Nat) (zs : List Int) (h : IsRow .u8 w a len cap zs) (hlen : len ≤ 1048576) :
    Rd w.heap.size (w.alloc (.cells #[.slice a len cap, .int .i64 0] 59)) w.heap.size 0 :=
  ⟨a, len, cap, zs, 0, Nat.le_refl _, h.blk, hlen, h.grown (World.grownBy_alloc w _ none) (fun _ _ _ e => by cases e), heap_alloc_new w _, by omega, by omega⟩

theorem conv_row1 {w : World} {a : Option Addr} {len cap : Nat} {zs : List Int} (h : IsRow .u8 w a len cap zs) (h1 : 1 ≤ len) : ∃ x, a = some x ∧ len ≤ cap ∧
    ((cap = 1 ∧ ∃ s : ByteArray, s.size = len - 1 ∧ (convert 25 9 (.slice (some x) (len - 1) (cap - 1))).run Tryd.prog w = .ok (.string s) w) ∨
     (cap ≠ 1 ∧ ∃ s : ByteArray, s.size = len - 1 ∧ (convert 25 9 (.slice (some ⟨x.block, x.off + 1, none⟩) (len - 1) (cap - 1))).run Tryd.prog w = .ok (.string s) w)) := by
  rcases h with ⟨_, rfl, _⟩ | ⟨x, rfl, hl, hm, hz, hc, hw⟩
  · omega
  · refine ⟨x, rfl, hl, ?_⟩
    have h : IsRow .u8 w (some x) len cap zs := .inr ⟨x, rfl, hl, hm, hz, hc, hw⟩
    by_cases hc1 : cap = 1
    · left
      obtain rfl : cap = 1 := hc1
      obtain rfl : len = 1 := by omega
      obtain ⟨s, hs, hcv⟩ := conv_row (w := w) (a := some x) (len := 0) (cap := 0) (zs := []) IsRow.none_left
      exact ⟨rfl, s, hs, hcv w (fun _ => rfl)⟩
    · right
      obtain ⟨s, hs, hcv⟩ := conv_row (h.part' 1 (len - 1) (by omega) (by omega))
      exact ⟨hc1, s, hs, hcv w (fun _ => rfl)⟩

def PathRel (w : World) (out n : Value) (wr : World) : Prop :=
  ∃ (k : Nat) (s : ByteArray), n = .int .i64 k ∧ k ≤ 7 ∧ out = .string s ∧ s.size + 50 * k ≤ 350 ∧ Rd w.heap.size wr w.heap.size (50 - 2 * k) ∧ TabAt wr (w.heap.size + 1) 16 8 ∧ Below w.heap.size w wr
theorem drawPath_any (a : Option Addr) (len cap : Nat) (zs : List Int) (w : World) (h : IsRow .u8 w a len cap zs) (hlen : len ≤ 1048576) :
    Calls Tryd.prog 54 #[.slice a len cap] w (StrPost 1048576 w) := by
  have H0 := Lib.hid h
  clear h
  go_enter Tryd.func54, Tryd.ntmps54
  go_wp2_with fail
  refine (raw_any a len cap zs _ H0.out hlen).mono ?_
  rintro e w' ⟨b, rfl, hb, rfl⟩
  cases b with
  | true =>
    obtain ⟨x, rfl, hlc, ⟨hc1, s, hs, hcv⟩ | ⟨hc1, s, hs, hcv⟩⟩ := conv_row1 H0.out (hb rfl)
    · have h1 := hb rfl
      have HS := Lib.hid hs
      clear hs hb
      obtain rfl : cap = 1 := hc1
      obtain rfl : len = 1 := by omega
      go_wp2
      go_ret
      exact ⟨s, rfl, by have := HS.out; omega, Below.refl _ _⟩
    · have h1 := hb rfl
      have HS := Lib.hid hs
      clear hs hb
      go_wp2
      go_ret
      exact ⟨s, rfl, by have := HS.out; omega, Below.refl _ _⟩
  | false =>
    clear hb
    have hRd0 := Lib.hid (Rd.new w a len cap zs H0.out hlen)
    have hT0 := Lib.hid (TabAt.new (w.alloc (.cells #[.slice a len cap, .int .i64 0] 59)) 9 [⟨#[47]⟩, ⟨#[47]⟩, ⟨#[97]⟩, ⟨#[46, 46]⟩, ⟨#[46]⟩, ⟨#[47, 47]⟩, ⟨#[98, 46, 99]⟩, ⟨#[46, 46, 46]⟩, ⟨#[46, 100]⟩, ⟨#[120]⟩, ⟨#[47, 46, 46, 47]⟩, ⟨#[97, 47, 46, 46]⟩, ⟨#[195, 169]⟩, ⟨#[47, 46, 47]⟩, ⟨#[42]⟩, ⟨#[98, 46]⟩] 8 (by decide))
    clear H0
    go_wp2_with fail
    refine (pick_any w.heap.size w.heap.size 0 8 _ (hRd0.out.grown (World.grownBy_alloc _ _ none) (fun k e => by cases e)) (by omega) (by omega)).mono ?_
    rintro e w1 ⟨x, rfl, hx0, hx1, hx2, hRd, hg⟩
    have hT1 := Lib.hid (hT0.out.grown hg (by simp))
    have hB1 : Hid (Below w.heap.size w w1) := (((Below.refl _ w).alloc (Nat.le_refl _) _).alloc (by simp) _).grown hg (by simp; omega) (fun k e => by injection e with e; omega)
    have hR1 := Lib.hid hRd
    have hX := hx1 (by omega)
    clear hRd hg hT0 hRd0 hx1 hx2
    obtain ⟨k, rfl⟩ := Int.eq_ofNat_of_zero_le hx0
    go_wp2
    go_loopw [5, 6] (fun o n wr => PathRel w o n wr) (fun _ n _ => (intOf n).toNat)
    case atStart => exact ⟨k, ByteArray.empty, rfl, by omega, rfl, by show 0 + 50 * k ≤ 350; omega, hR1.out.mono (by omega), (by simpa using hT1.out), hB1.out⟩
    case round =>
      clear hR1 hT1 hB1 hX hx0
      obtain ⟨k, s, rfl, hk, rfl, hs, hRd, hT, hBe⟩ := hrel
      have hR := Lib.hid hRd
      have hTb := Lib.hid hT
      have hBel := Lib.hid hBe
      clear hRd hT hBe
      by_cases h0 : 0 < k
      · go_wp2_with fail
        refine (pick_any w.heap.size w.heap.size _ 16 _ hR.out (by omega) (by omega)).mono ?_
        rintro e w1 ⟨x, rfl, hx0, hx1, hx2, hRd, hg⟩
        have hT1 := Lib.hid (hTb.out.grown hg (by simp))
        have hB1 := Lib.hid (hBel.out.grown hg hBel.out.size (fun k e => by injection e with e; omega))
        have hR1 := Lib.hid hRd
        have hX := hx1 (by omega)
        clear hRd hg hR hTb hBel hx1 hx2
        obtain ⟨y, hcell, hy⟩ := hT1.out.2 x.toNat (by omega)
        go_wp2_with fail
        refine (pick_any w.heap.size w.heap.size _ 2 _ hR1.out (by omega) (by omega)).mono ?_
        rintro e w2 ⟨x2, rfl, hx20, hx21, hx22, hRd, hg⟩
        have hT2 := Lib.hid (hT1.out.grown hg (by simp))
        have hB2 := Lib.hid (hB1.out.grown hg hB1.out.size (fun k e => by injection e with e; omega))
        have hR2 := Lib.hid hRd
        clear hRd hg hR1 hT1 hB1 hx21 hx22 hcell
        go_wp2
        · go_roundw
          case rel => exact ⟨k - 1, _, by go_num, by omega, rfl, by have e1 : (⟨#[47]⟩ : ByteArray).size = 1 := rfl; simp [e1]; omega, hR2.out.mono (by omega), hT2.out, hB2.out⟩
          case measure => simp [intOf]; omega
        · go_roundw
          case rel => exact ⟨k - 1, _, by go_num, by omega, rfl, by simp; omega, hR2.out.mono (by omega), hT2.out, hB2.out⟩
          case measure => simp [intOf]; omega
      · go_wp2
        go_ret
        exact ⟨s, rfl, by omega, hBel.out⟩


theorem drawBase_any (a : Option Addr) (len cap : Nat) (zs : List Int) (w : World) (h : IsRow .u8 w a len cap zs) (hlen : len ≤ 1048576) :
    Calls Tryd.prog 20 #[.slice a len cap] w (ListPost 1048576 w) := by
  go_enter Tryd.func20, Tryd.ntmps20
  go_wp2_with fail
  refine (drawPath_any a len cap zs _ h hlen).mono ?_
  rintro e w1 ⟨s, rfl, hs, hb⟩
  have H := Lib.hid hb
  clear hb
  go_wp2
  go_ret
  exact StrPost.list ⟨s, rfl, hs, H.out⟩





end Go.Proofs.YtlekeaganaliiaaDoor

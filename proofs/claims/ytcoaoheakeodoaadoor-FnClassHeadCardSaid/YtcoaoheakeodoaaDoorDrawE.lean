/-
  The draws of characters and of texts: contracts. Conditions: none beyond those of each theorem.
-/
import Derived.Test.YtcoaoheakeodoaaDoorDrawC
import Derived.Laws.Runes
import Derived.Laws.Cover4
namespace Go.Proofs.YtcoaoheakeodoaaDoor
open Go.ChangeShapes Go.WideShapes Go.ChangeAt Go.RowKit

/-- A table of characters in a block. -/
def RTab (w : World) (B n : Nat) : Prop := B < w.heap.size ∧ ∀ i, i < n → ∃ c : Int, w.cell? ⟨B, i, none⟩ = some (.int .i32 c) ∧ 0 ≤ c ∧ c ≤ 1114111
theorem RTab.grown {w w' : World} {B n : Nat} {r : Option Nat} (h : RTab w B n) (hg : w.grownBy w' r) (hr : r ≠ some B) : RTab w' B n :=
  ⟨Nat.lt_of_lt_of_le h.1 hg.size, fun i hi => by
    obtain ⟨s, h1, h2⟩ := h.2 i hi
    exact ⟨s, hg.cell h1 (fun e => hr e.symm), h2⟩⟩
theorem RTab.new (w : World) (t : TypeId) (cs : List Int) (hm : ∀ c ∈ cs, 0 ≤ c ∧ c ≤ 1114111) : RTab (w.alloc (.cells (cs.map (Value.int .i32)).toArray t)) w.heap.size cs.length :=
  ⟨by simp, fun i hi => ⟨cs[i], by
    unfold World.cell?
    rw [heap_alloc_new]
    simp [hi], hm _ (List.getElem_mem hi)⟩⟩

theorem Rd.lt {base : Nat} {w : World} {B : Nat} {m : Int} (h : Rd base w B m) : B < w.heap.size := by
  obtain ⟨a, len, cap, zs, p, h1, h2, h3, h4, h5, h6, h7⟩ := h
  exact lt_of_block h5

theorem grownBy_more {a b c : World} {row r : Option Nat} (h : a.grownBy b row) (k : b.grownBy c r) (hr : ∀ j, r = some j → a.heap.size ≤ j) : a.grownBy c row :=
  ⟨k.os.trans h.os, k.tape.trans h.tape, k.output.trans h.output, Nat.le_trans h.size k.size, fun i hi hn => (k.block i (Nat.lt_of_lt_of_le hi h.size) (fun e => by have := hr i e.symm; omega)).trans (h.block i hi hn)⟩
theorem Rd.base {base : Nat} {w : World} {B : Nat} {m : Int} (h : Rd base w B m) : base ≤ B := by
  obtain ⟨a, len, cap, zs, p, h1, h2, h3, h4, h5, h6, h7⟩ := h
  exact h1

/-- A draw: the reader has gone on by at most k; nothing but the reader and new memory has changed. -/
def Drew (base B : Nat) (m : Int) (w w' : World) : Prop := Rd base w' B m ∧ w.grownBy w' (some B)
theorem Drew.trans {base B : Nat} {m m' : Int} {w w1 w2 : World} (h1 : Drew base B m w w1) (h2 : Drew base B m' w1 w2) : Drew base B m' w w2 := ⟨h2.1, h1.2.trans h2.2⟩
theorem Drew.below {base B : Nat} {m : Int} {w0 w w' : World} (h : Drew base B m w w') (hb : Below base w0 w) (hB : base ≤ B) (hs : base ≤ w.heap.size) : Below base w0 w' := hb.grown h.2 hs (fun k e => by injection e with e; omega)

/-- New memory has been written since. -/
theorem Drew.more {base B : Nat} {m : Int} {w w1 w2 : World} {r : Option Nat} (h : Drew base B m w w1) (hg : w1.grownBy w2 r) (hB : B < w.heap.size) (hr : ∀ j, r = some j → w.heap.size ≤ j) : Drew base B m w w2 :=
  ⟨h.1.grown hg (fun j e => by have := hr j e; have := h.1.base; omega), grownBy_more h.2 hg hr⟩

theorem Drew.mono {base B : Nat} {m m' : Int} {w w' : World} (h : Drew base B m w w') (hm : m ≤ m') : Drew base B m' w w' := ⟨h.1.mono hm, h.2⟩

def RunePost (base B : Nat) (m : Int) (w : World) (e : Ending) (w' : World) : Prop := ∃ c : Int, e = .returned (.int .i32 c) ∧ 0 ≤ c ∧ c ≤ 1114111 ∧ Drew base B (m + 1) w w'

theorem someRune_any (base B : Nat) (m : Int) (w : World) (h : Rd base w B m) (h0 : 0 ≤ m) (hm : m ≤ 900000) :
    Calls Tryd.prog 53 #[.pointer (some ⟨B, 0, none⟩)] w (RunePost base B m w) := by
  have hT0 := Lib.hid (RTab.new w 21 [97, 98, 99, 97, 98, 120, 47, 45, 93, 94, 91, 42, 63, 92, 46, 233, 8364, 128512, 65533, 65, 0, 47] (by decide))
  have hR0 := Lib.hid (h.grown (World.grownBy_alloc w (.cells (([97, 98, 99, 97, 98, 120, 47, 45, 93, 94, 91, 42, 63, 92, 46, 233, 8364, 128512, 65533, 65, 0, 47] : List Int).map (Value.int .i32)).toArray 21) none) (fun k e => by cases e))
  have hlt := h.lt
  have hg0 := Lib.hid (World.grownBy_alloc w (.cells (([97, 98, 99, 97, 98, 120, 47, 45, 93, 94, 91, 42, 63, 92, 46, 233, 8364, 128512, 65533, 65, 0, 47] : List Int).map (Value.int .i32)).toArray 21) (some B))
  clear h
  go_enter Tryd.func53, Tryd.ntmps53
  go_wp2_with fail
  refine (pick_any base B m 22 _ hR0.out (by omega) (by omega)).mono ?_
  rintro e w1 ⟨x, rfl, hx0, hx1, hx2, hRd, hg⟩
  have hX := hx1 (by omega)
  have hT1 := Lib.hid (hT0.out.grown hg (by intro e; injection e with e; omega))
  have hD : Hid (Drew base B (m + 1) w w1) := ⟨hRd, hg0.out.trans hg⟩
  clear hRd hg hT0 hR0 hg0 hx1 hx2
  obtain ⟨c, hc, hc0, hc1⟩ := hT1.out.2 x.toNat (by show x.toNat < 22; omega)
  go_wp2
  go_ret
  exact ⟨c, rfl, hc0, hc1, hD.out⟩

theorem nameRune_any (base B : Nat) (m : Int) (w : World) (h : Rd base w B m) (h0 : 0 ≤ m) (hm : m ≤ 900000) :
    Calls Tryd.prog 43 #[.pointer (some ⟨B, 0, none⟩)] w (RunePost base B m w) := by
  have hT0 := Lib.hid (RTab.new w 21 [97, 98, 97, 99, 98, 47, 120, 46, 97, 233, 98, 8364] (by decide))
  have hR0 := Lib.hid (h.grown (World.grownBy_alloc w (.cells (([97, 98, 97, 99, 98, 47, 120, 46, 97, 233, 98, 8364] : List Int).map (Value.int .i32)).toArray 21) none) (fun k e => by cases e))
  have hlt := h.lt
  have hg0 := Lib.hid (World.grownBy_alloc w (.cells (([97, 98, 97, 99, 98, 47, 120, 46, 97, 233, 98, 8364] : List Int).map (Value.int .i32)).toArray 21) (some B))
  clear h
  go_enter Tryd.func43, Tryd.ntmps43
  go_wp2_with fail
  refine (pick_any base B m 12 _ hR0.out (by omega) (by omega)).mono ?_
  rintro e w1 ⟨x, rfl, hx0, hx1, hx2, hRd, hg⟩
  have hX := hx1 (by omega)
  have hT1 := Lib.hid (hT0.out.grown hg (by intro e; injection e with e; omega))
  have hD : Hid (Drew base B (m + 1) w w1) := ⟨hRd, hg0.out.trans hg⟩
  clear hRd hg hT0 hR0 hg0 hx1 hx2
  obtain ⟨c, hc, hc0, hc1⟩ := hT1.out.2 x.toNat (by show x.toNat < 12; omega)
  go_wp2
  go_ret
  exact ⟨c, rfl, hc0, hc1, hD.out⟩

def TextPost (base B : Nat) (m : Int) (n : Nat) (w : World) (e : Ending) (w' : World) : Prop := ∃ s : ByteArray, e = .returned (.string s) ∧ s.size ≤ n ∧ Drew base B m w w'
def TextRel (base B : Nat) (m : Int) (n q : Nat) (w : World) (out v : Value) (wr : World) : Prop :=
  ∃ (k : Nat) (s : ByteArray), v = .int .i64 k ∧ k ≤ n ∧ out = .string s ∧ s.size + 4 * k ≤ 4 * n ∧ Drew base B (m + 1 + q * (n - k)) w wr

theorem someText_any (base B : Nat) (m : Int) (n : Nat) (w : World) (h : Rd base w B m) (h0 : 0 ≤ m) (hm : m ≤ 800000) (hn : n ≤ 100) :
    Calls Tryd.prog 44 #[.pointer (some ⟨B, 0, none⟩), .int .i64 n] w (TextPost base B (m + 1 + 3 * n) (4 * n) w) := by
  have hR0 := Lib.hid h
  clear h
  go_enter Tryd.func44, Tryd.ntmps44
  go_wp2_with fail
  refine (pick_any base B m (n + 1) _ hR0.out (by omega) (by omega)).mono ?_
  rintro e w1 ⟨x, rfl, hx0, hx1, hx2, hRd, hg⟩
  have hX := hx1 (by omega)
  have hD : Hid (Drew base B (m + 1) w w1) := ⟨hRd, hg⟩
  clear hRd hg hR0 hx1 hx2
  obtain ⟨k, rfl⟩ := Int.eq_ofNat_of_zero_le hx0
  go_wp2
  go_loopw [5, 6] (fun o v wr => TextRel base B m n 3 w o v wr) (fun _ v _ => (intOf v).toNat)
  case atStart => exact ⟨k, ByteArray.empty, rfl, by omega, rfl, by show 0 + 4 * k ≤ 4 * n; omega, hD.out.1.mono (by omega), hD.out.2⟩
  case round =>
    clear hD hX hx0
    obtain ⟨k, s, rfl, hk, rfl, hs, hDr⟩ := hrel
    have hD := Lib.hid hDr
    clear hDr
    by_cases hk0 : 0 < k
    · go_wp2_with fail
      refine (nameRune_any base B _ _ hD.out.1 (by omega) (by omega)).mono ?_
      rintro e w2 ⟨c, rfl, hc0, hc1, hDr⟩
      have hD2 := Lib.hid (hD.out.trans hDr)
      clear hDr hD
      go_wp2_with fail
      refine (pick_any base B _ 6 _ hD2.out.1 (by omega) (by omega)).mono ?_
      rintro e w3 ⟨x, rfl, hx0, hx1, hx2, hRd, hg⟩
      have hD3 := Lib.hid (hD2.out.trans ⟨hRd, hg⟩)
      clear hRd hg hD2 hx1 hx2
      by_cases hx : x = 0
      · obtain rfl : x = 0 := hx
        go_wp2_with fail
        refine (someRune_any base B _ _ hD3.out.1 (by omega) (by omega)).mono ?_
        rintro e w4 ⟨d, rfl, hd0, hd1, hDr⟩
        have hD4 := Lib.hid (hD3.out.trans hDr)
        clear hDr hD3
        have hz := encode_size_le d
        go_wp2
        go_roundw
        case rel => exact ⟨k - 1, _, by go_num, by omega, rfl, by simp; omega, hD4.out.1.mono (by omega), hD4.out.2⟩
        case measure => simp [intOf]; omega
      · have hxb : (x == 0) = false := by simpa using hx
        have hz := encode_size_le c
        clear hx
        go_wp2
        go_roundw
        case rel => exact ⟨k - 1, _, by go_num, by omega, rfl, by simp; omega, hD3.out.1.mono (by omega), hD3.out.2⟩
        case measure => simp [intOf]; omega
    · go_wp2
      go_ret
      exact ⟨s, rfl, by omega, hD.out.1.mono (by omega), hD.out.2⟩

theorem noSlash_any (base B : Nat) (m : Int) (n : Nat) (w : World) (h : Rd base w B m) (h0 : 0 ≤ m) (hm : m ≤ 800000) (hn : n ≤ 100) :
    Calls Tryd.prog 42 #[.pointer (some ⟨B, 0, none⟩), .int .i64 n] w (TextPost base B (m + 1 + n) (4 * n) w) := by
  have hR0 := Lib.hid h
  clear h
  go_enter Tryd.func42, Tryd.ntmps42
  go_wp2_with fail
  refine (pick_any base B m (n + 1) _ hR0.out (by omega) (by omega)).mono ?_
  rintro e w1 ⟨x, rfl, hx0, hx1, hx2, hRd, hg⟩
  have hX := hx1 (by omega)
  have hD : Hid (Drew base B (m + 1) w w1) := ⟨hRd, hg⟩
  clear hRd hg hR0 hx1 hx2
  obtain ⟨k, rfl⟩ := Int.eq_ofNat_of_zero_le hx0
  go_wp2
  go_loopw [5, 6] (fun o v wr => TextRel base B m n 1 w o v wr) (fun _ v _ => (intOf v).toNat)
  case atStart => exact ⟨k, ByteArray.empty, rfl, by omega, rfl, by show 0 + 4 * k ≤ 4 * n; omega, hD.out.1.mono (by omega), hD.out.2⟩
  case round =>
    clear hD hX hx0
    obtain ⟨k, s, rfl, hk, rfl, hs, hDr⟩ := hrel
    have hD := Lib.hid hDr
    clear hDr
    by_cases hk0 : 0 < k
    · go_wp2_with fail
      refine (nameRune_any base B _ _ hD.out.1 (by omega) (by omega)).mono ?_
      rintro e w2 ⟨c, rfl, hc0, hc1, hDr⟩
      have hD2 := Lib.hid (hD.out.trans hDr)
      clear hDr hD
      have hz := encode_size_le c
      by_cases hc : c = 47
      · obtain rfl : c = 47 := hc
        go_wp2
        go_roundw
        case rel => exact ⟨k - 1, _, by go_num, by omega, rfl, by omega, hD2.out.1.mono (by omega), hD2.out.2⟩
        case measure => simp [intOf]; omega
      · have hcb : (c != 47) = true := by simpa using hc
        clear hc
        go_wp2
        go_roundw
        case rel => exact ⟨k - 1, _, by go_num, by omega, rfl, by simp; omega, hD2.out.1.mono (by omega), hD2.out.2⟩
        case measure => simp [intOf]; omega
    · go_wp2
      go_ret
      exact ⟨s, rfl, by omega, hD.out.1.mono (by omega), hD.out.2⟩

end Go.Proofs.YtcoaoheakeodoaaDoor

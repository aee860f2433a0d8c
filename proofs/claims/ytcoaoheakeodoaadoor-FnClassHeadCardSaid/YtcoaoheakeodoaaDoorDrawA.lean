/-
  The reader of draws: raw, pick: contracts. Conditions: none beyond those of each theorem.
-/
import Derived.Test.YtcoaoheakeodoaaDoorBase
namespace Go.Proofs.YtcoaoheakeodoaaDoor
open Go.ChangeShapes Go.WideShapes Go.ChangeAt Go.RowKit

def RawPost (len : Nat) (w : World) (e : Ending) (w' : World) : Prop := ∃ b : Bool, e = .returned (.bool b) ∧ (b = true → 1 ≤ len) ∧ w = w'

theorem IsRow.byte {w : World} {a : Option Addr} {len cap : Nat} {zs : List Int} (h : IsRow .u8 w a len cap zs) {i : Nat} (hi : i < len) :
    ∃ x z, a = some x ∧ w.cell? (x.add i) = some (.int .u8 z) ∧ 0 ≤ z ∧ z ≤ 255 := by
  rcases h with ⟨_, rfl, _, _⟩ | ⟨x, rfl, hl, hm, hz, hc, hw⟩
  · omega
  · have hi' : i < zs.length := by omega
    refine ⟨x, zs.getD i 0, rfl, hc i hi', ?_⟩
    have hmem : zs.getD i 0 ∈ zs := by
      rw [List.getD_eq_getElem?_getD, List.getElem?_eq_getElem hi']
      exact List.getElem_mem hi'
    have := hw _ hmem
    simpa [Lit.wf, IntKind.min, IntKind.max, IntKind.signed, IntKind.bits] using this

theorem IsRow.blk {w : World} {a : Option Addr} {len cap : Nat} {zs : List Int} (h : IsRow .u8 w a len cap zs) : ∀ x : Addr, a = some x → 0 < cap → x.block < w.heap.size := by
  intro x hx hc
  rcases h with ⟨rfl, _⟩ | ⟨x', rfl, hl, hm, hz, hcell, hw⟩
  · cases hx
  · obtain rfl : x' = x := by injection hx
    have := World.block_lt_of_cell? w _ (hcell 0 (by omega))
    simpa [Addr.add] using this

theorem raw_any (a : Option Addr) (len cap : Nat) (zs : List Int) (w : World) (h : IsRow .u8 w a len cap zs) (hlen : len ≤ 1048576) :
    Calls Tryd.prog 19 #[.slice a len cap] w (RawPost len w) := by
  by_cases h0 : 0 < len
  · obtain ⟨x, z, rfl, hc, hz0, hz1⟩ := h.byte h0
    have hc' : w.cell? x = some (.int .u8 z) := by simpa [Addr.add] using hc
    go_enter Tryd.func19, Tryd.ntmps19
    go_wp2
    go_ret
    exact ⟨_, rfl, fun _ => by omega, rfl⟩
  · obtain rfl : len = 0 := by omega
    go_enter Tryd.func19, Tryd.ntmps19
    go_wp2
    go_ret
    exact ⟨false, rfl, by simp, rfl⟩

theorem i64_xor_nonneg (a b : Int) (h1 : 0 ≤ a) (h2 : a < 9223372036854775808) (h3 : 0 ≤ b) (h4 : b < 9223372036854775808) : 0 ≤ bits .xor .i64 a b ∧ bits .xor .i64 a b < 9223372036854775808 := by
  obtain ⟨A, rfl⟩ := Int.eq_ofNat_of_zero_le h1
  obtain ⟨B, rfl⟩ := Int.eq_ofNat_of_zero_le h3
  have hx : A ^^^ B < 2 ^ 63 := Nat.xor_lt_two_pow (by omega) (by omega)
  have e1 : (BitVec.ofInt 64 (A : Int)).toNat = A := by
    rw [BitVec.ofInt_natCast, BitVec.toNat_ofNat]; exact Nat.mod_eq_of_lt (by omega)
  have e2 : (BitVec.ofInt 64 (B : Int)).toNat = B := by
    rw [BitVec.ofInt_natCast, BitVec.toNat_ofNat]; exact Nat.mod_eq_of_lt (by omega)
  have e : bits .xor .i64 (A : Int) (B : Int) = ((A ^^^ B : Nat) : Int) := by
    show IntKind.i64.wrap ((BitVec.ofInt 64 (A : Int) ^^^ BitVec.ofInt 64 (B : Int)).toNat : Int) = _
    rw [BitVec.toNat_xor, e1, e2, IntKind.wrap_i64]
    omega
  rw [e]
  omega

/-- The reader of draws at block B: the code's slice, which lies below 'base', and a place of at most m. -/
def Rd (base : Nat) (w : World) (B : Nat) (m : Int) : Prop := ∃ a len cap zs p, base ≤ B ∧ (∀ x : Addr, a = some x → 0 < cap → x.block < base) ∧ len ≤ 1048576 ∧ IsRow .u8 w a len cap zs ∧
  w.heap[B]? = some (.cells #[.slice a len cap, .int .i64 p] 49 (0, 0)) ∧ 0 ≤ p ∧ p ≤ m

def PickPost (base B : Nat) (m n : Int) (w : World) (e : Ending) (w' : World) : Prop :=
  ∃ x, e = .returned (.int .i64 x) ∧ 0 ≤ x ∧ (1 ≤ n → x < n) ∧ (n < 1 → x = 0) ∧ Rd base w' B (m + 1) ∧ w.grownBy w' (some B)

theorem IsRow.grown {w w' : World} {a : Option Addr} {len cap : Nat} {zs : List Int} {r : Option Nat} (h : IsRow .u8 w a len cap zs) (hg : w.grownBy w' r) (hr : ∀ x : Addr, a = some x → 0 < cap → some x.block ≠ r) : IsRow .u8 w' a len cap zs := by
  rcases h with h | ⟨x, rfl, hl, hm, hz, hc, hw⟩
  · exact .inl h
  · refine .inr ⟨x, rfl, hl, hm, hz, fun i hi => ?_, hw⟩
    refine hg.cell (hc i hi) ?_
    have : (x.add i).block = x.block := by unfold Addr.add; split <;> rfl
    rw [this]
    exact hr x rfl (by omega)

theorem pick_small (B : Nat) (a : Option Addr) (len cap : Nat) (p n : Int) (w : World) (hlen : len ≤ 1048576) (hp : 0 ≤ p) (hp2 : p ≤ 1000000)
    (c0 : w.cell? ⟨B, 0, none⟩ = some (.slice a len cap)) (c1 : w.cell? ⟨B, 1, none⟩ = some (.int .i64 p)) (f1 : w.frozen? ⟨B, 1, none⟩ = false) (hn : n < 1 ∨ (1 ≤ n ∧ len = 0)) :
    Calls Tryd.prog 24 #[.pointer (some ⟨B, 0, none⟩), .int .i64 n] w fun e w' => e = .returned (.int .i64 0) ∧ w.setCell ⟨B, 1, none⟩ (.int .i64 (p + 1)) = w' := by
  rcases hn with hn | ⟨hn, rfl⟩
  · go_enter Tryd.func24, Tryd.ntmps24
    go_wp2
    go_ret
    exact ⟨rfl, rfl⟩
  · have hn' : decide (n < 1) = false := by simp; omega
    go_enter Tryd.func24, Tryd.ntmps24
    go_wp2
    go_ret
    exact ⟨rfl, rfl⟩

theorem pick_near (B : Nat) (x : Addr) (len cap : Nat) (p n z : Int) (w : World) (hlen : len ≤ 1048576) (hp : 0 ≤ p) (hp2 : p < len) (hn : 1 ≤ n) (hn2 : n ≤ 1000000)
    (c0 : w.cell? ⟨B, 0, none⟩ = some (.slice (some x) len cap)) (c1 : w.cell? ⟨B, 1, none⟩ = some (.int .i64 p)) (f1 : w.frozen? ⟨B, 1, none⟩ = false)
    (cz : (w.setCell ⟨B, 1, none⟩ (.int .i64 (p + 1))).cell? (x.add p.toNat) = some (.int .u8 z)) (hz : 0 ≤ z) (hz2 : z ≤ 255) :
    Calls Tryd.prog 24 #[.pointer (some ⟨B, 0, none⟩), .int .i64 n] w fun e w' => e = .returned (.int .i64 (z % n)) ∧ w.setCell ⟨B, 1, none⟩ (.int .i64 (p + 1)) = w' := by
  have hl0 : ((len : Int) == 0) = false := by simp; omega
  go_enter Tryd.func24, Tryd.ntmps24
  go_wp2
  go_ret
  exact ⟨rfl, rfl⟩

theorem pick_far (B : Nat) (x : Addr) (len cap : Nat) (p n z y : Int) (w : World) (hlen : len ≤ 1048576) (hl1 : 1 ≤ len) (hp : (len : Int) ≤ p) (hp2 : p ≤ 1000000) (hn : 1 ≤ n) (hn2 : n ≤ 1000000)
    (c0 : w.cell? ⟨B, 0, none⟩ = some (.slice (some x) len cap)) (c1 : w.cell? ⟨B, 1, none⟩ = some (.int .i64 p)) (f1 : w.frozen? ⟨B, 1, none⟩ = false)
    (cz : (w.setCell ⟨B, 1, none⟩ (.int .i64 (p + 1))).cell? (x.add (p % len).toNat) = some (.int .u8 z)) (hz : 0 ≤ z) (hz2 : z ≤ 255)
    (cy : (w.setCell ⟨B, 1, none⟩ (.int .i64 (p + 1))).cell? (x.add ((p * 7 + 3) % len).toNat) = some (.int .u8 y)) (hy : 0 ≤ y) (hy2 : y ≤ 255) :
    Calls Tryd.prog 24 #[.pointer (some ⟨B, 0, none⟩), .int .i64 n] w fun e w' => ∃ k v, e = .returned (.int .i64 (v % n)) ∧ 0 ≤ v ∧ (w.setCell ⟨B, 1, none⟩ (.int .i64 (p + 1))).drewN k = w' := by
  have hl0 : ((len : Int) == 0) = false := by simp; omega
  have hm1 : 0 ≤ p % len ∧ p % len < len := ⟨Int.emod_nonneg _ (by omega), Int.emod_lt_of_pos _ (by omega)⟩
  have hm2 : 0 ≤ (p * 7 + 3) % len ∧ (p * 7 + 3) % len < len := ⟨Int.emod_nonneg _ (by omega), Int.emod_lt_of_pos _ (by omega)⟩
  have hd : 0 ≤ p / len ∧ p / len ≤ p := ⟨Int.ediv_nonneg (by omega) (by omega), Int.ediv_le_self _ (by omega)⟩
  go_enter Tryd.func24, Tryd.ntmps24
  go_wp2
  go_quiet (fail)
  go_wp2
  go_ret
  have hx := i64_xor_nonneg (z * 131 + y * 1117 + p * 29 + p / len * 53) ((z * 131 + y * 1117 + p * 29 + p / len * 53) / 64) (by omega) (by omega) (by omega) (by omega)
  refine ⟨nq, _, ?_, hx.1, rfl⟩
  show Ending.returned (Value.int .i64 (Int.tmod _ n)) = _
  rw [Int.tmod_eq_emod_of_nonneg hx.1]

theorem Rd.mono {base : Nat} {w : World} {B : Nat} {m m' : Int} (h : Rd base w B m) (hm : m ≤ m') : Rd base w B m' := by
  obtain ⟨a, len, cap, zs, p, h1, h2, h3, h4, h5, h6, h7⟩ := h
  exact ⟨a, len, cap, zs, p, h1, h2, h3, h4, h5, h6, by omega⟩

theorem two_setCell {w : World} {b : Nat} {v u u' : Value} {t : TypeId} (h : w.heap[b]? = some (.cells #[v, u] t (0, 0))) : (w.setCell ⟨b, 1, none⟩ u').heap[b]? = some (.cells #[v, u'] t (0, 0)) := by
  have hlt := lt_of_block h
  have h' : w.heap[b] = .cells #[v, u] t (0, 0) := by simpa [Array.getElem?_eq_getElem hlt] using h
  show (w.heap.modify b _)[b]? = _
  rw [Array.getElem?_eq_getElem (by simpa using hlt), Array.getElem_modify_self, h']
  rfl

theorem grownBy_setCell (w : World) (b o : Nat) (v : Value) (k : Nat) : w.grownBy ((w.setCell ⟨b, o, none⟩ v).drewN k) (some b) :=
  ⟨rfl, rfl, rfl, by simp, fun j _ hj => by
    show (w.setCell ⟨b, o, none⟩ v).heap[j]? = _
    exact Below.heap_setCell w ⟨b, o, none⟩ v j (fun e => hj (by rw [e]))⟩

theorem pick_any (base B : Nat) (m n : Int) (w : World) (h : Rd base w B m) (hm : m ≤ 1000000) (hn : n ≤ 1000000) :
    Calls Tryd.prog 24 #[.pointer (some ⟨B, 0, none⟩), .int .i64 n] w (PickPost base B m n w) := by
  obtain ⟨a, len, cap, zs, p, hB, hblk, hlen, hrow, hb, hp, hpm⟩ := h
  have c0 : w.cell? ⟨B, 0, none⟩ = some (.slice a len cap) := by simp [World.cell?, hb]
  have c1 : w.cell? ⟨B, 1, none⟩ = some (.int .i64 p) := by simp [World.cell?, hb]
  have f1 : w.frozen? ⟨B, 1, none⟩ = false := by simp [World.frozen?, hb]
  have g : ∀ k, w.grownBy ((w.setCell ⟨B, 1, none⟩ (.int .i64 (p + 1))).drewN k) (some B) := fun k => grownBy_setCell w B 1 _ k
  have hne : ∀ x : Addr, a = some x → 0 < cap → some x.block ≠ some B := fun x hx hc e => by have := hblk x hx hc; injection e with e; omega
  have fin : ∀ k, Rd base ((w.setCell ⟨B, 1, none⟩ (.int .i64 (p + 1))).drewN k) B (m + 1) := fun k =>
    ⟨a, len, cap, zs, p + 1, hB, hblk, hlen, hrow.grown (g k) hne, two_setCell hb, by omega, by omega⟩
  by_cases h1 : 1 ≤ n ∧ 1 ≤ len
  · obtain ⟨h1, hl1⟩ := h1
    have row := hrow.grown (g 0) hne
    by_cases hlt : p < len
    · obtain ⟨x, z, rfl, hz, hz1, hz2⟩ := row.byte (i := p.toNat) (by omega)
      refine (pick_near B x len cap p n z w hlen hp hlt h1 hn c0 c1 f1 hz hz1 hz2).mono ?_
      rintro e w' ⟨rfl, rfl⟩
      exact ⟨_, rfl, Int.emod_nonneg _ (by omega), fun _ => Int.emod_lt_of_pos _ (by omega), fun h => by omega, fin 0, g 0⟩
    · have hm1 : 0 ≤ p % len ∧ p % len < len := ⟨Int.emod_nonneg _ (by omega), Int.emod_lt_of_pos _ (by omega)⟩
      have hm2 : 0 ≤ (p * 7 + 3) % len ∧ (p * 7 + 3) % len < len := ⟨Int.emod_nonneg _ (by omega), Int.emod_lt_of_pos _ (by omega)⟩
      obtain ⟨x, z, rfl, hz, hz1, hz2⟩ := row.byte (i := (p % len).toNat) (by omega)
      obtain ⟨x', y, hx, hy, hy1, hy2⟩ := row.byte (i := ((p * 7 + 3) % len).toNat) (by omega)
      obtain rfl : x = x' := by injection hx
      refine (pick_far B x len cap p n z y w hlen hl1 (by omega) (by omega) h1 hn c0 c1 f1 hz hz1 hz2 hy hy1 hy2).mono ?_
      rintro e w' ⟨k, v, rfl, hv, rfl⟩
      exact ⟨_, rfl, Int.emod_nonneg _ (by omega), fun _ => Int.emod_lt_of_pos _ (by omega), fun h => by omega, fin k, g k⟩
  · refine (pick_small B a len cap p n w hlen hp (by omega) c0 c1 f1 (by omega)).mono ?_
    rintro e w' ⟨rfl, rfl⟩
    exact ⟨0, rfl, by omega, fun _ => by omega, fun _ => rfl, fin 0, g 0⟩

end Go.Proofs.YtcoaoheakeodoaaDoor

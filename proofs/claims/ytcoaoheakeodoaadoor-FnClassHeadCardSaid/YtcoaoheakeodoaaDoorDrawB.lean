/-
  cut and cutAll: contracts. Conditions: none beyond those of each theorem.
-/
import Derived.Test.YtcoaoheakeodoaaDoorDrawA
import Derived.BigRegion
import Derived.Deep.DeepCutAuto
namespace Go.Proofs.YtcoaoheakeodoaaDoor
open Go.ChangeShapes Go.WideShapes Go.ChangeAt Go.RowKit

theorem add_add (x : Addr) (k i : Nat) : (x.add k).add i = x.add (k + i) := by
  unfold Addr.add
  by_cases hk : k = 0
  · subst hk; simp
  · by_cases hi : i = 0
    · subst hi; simp [hk]
    · simp [hk, hi, Nat.add_assoc]

theorem add_block (x : Addr) (k : Nat) : (x.add k).block = x.block := by unfold Addr.add; split <;> rfl

theorem IsRow.part {w : World} {x : Addr} {len cap : Nat} {zs : List Int} (h : IsRow .u8 w (some x) len cap zs) (k n : Nat) (hk : k + n ≤ cap) : IsRow .u8 w (some (x.add k)) n (cap - k) (zs.drop k) := by
  rcases h with ⟨h, _⟩ | ⟨x', hx, hl, hm, hz, hc, hw⟩
  · cases h
  · obtain rfl : x = x' := by injection hx
    refine .inr ⟨_, rfl, by omega, by omega, by rw [List.length_drop]; omega, fun i hi => ?_, fun n hn => hw n (List.mem_of_mem_drop hn)⟩
    rw [List.length_drop] at hi
    rw [add_add, hc (k + i) (by omega)]
    simp [List.getD_eq_getElem?_getD, List.getElem?_drop]

theorem IsRow.part' {w : World} {x : Addr} {len cap : Nat} {zs : List Int} (h : IsRow .u8 w (some x) len cap zs) (k n : Nat) (hk : k + n ≤ cap) (h0 : 0 < k) : IsRow .u8 w (some ⟨x.block, x.off + k, none⟩) n (cap - k) (zs.drop k) := by
  have := h.part k n hk
  have e : x.add k = ⟨x.block, x.off + k, none⟩ := by unfold Addr.add; rw [if_neg (by omega)]
  rwa [e] at this

theorem IsRow.none_left {w : World} {x : Addr} : IsRow .u8 w (some x) 0 0 [] := .inr ⟨x, rfl, by omega, by unfold maxLen; omega, rfl, fun i hi => by simp at hi, fun n hn => by cases hn⟩

theorem conv_row {w : World} {a : Option Addr} {len cap : Nat} {zs : List Int} (h : IsRow .u8 w a len cap zs) :
    ∃ s : ByteArray, s.size = len ∧ ∀ w' : World, (∀ p : Addr, w'.cell? p = w.cell? p) → (convert 22 9 (.slice a len cap)).run Tryd.prog w' = .ok (.string s) w' := by
  have e0 : ∀ w' : World, (convert 22 9 (.slice a len cap)).run Tryd.prog w' = _ := fun w' => run_convert_bytes_string w' 22 9 5 a len cap Tryd.underlying22 Tryd.underlying5 Tryd.underlying9
  rcases h with ⟨rfl, rfl, rfl, _⟩ | ⟨x, rfl, hl, hm, hz, hc, hw⟩
  · exact ⟨ByteArray.empty, rfl, fun w' _ => by rw [e0]; simp [Conv.bytesToString]⟩
  · refine ⟨_, ?_, fun w' hw' => (e0 w').trans (run_bytesToString w' x len cap (zs.take len) ?_)⟩
    · rw [foldl_push_bytes]
      show ((ByteArray.empty.data ++ _ : Array UInt8)).size = len
      rw [Array.size_append]
      show 0 + _ = len
      simp
      omega
    · have := run_loadCells_list (P := Tryd.prog) w' x ((zs.take len).map (Value.int .u8)) (fun j v hj => by
        have hj' : j < zs.length := by
          rcases Nat.lt_or_ge j zs.length with h | h
          · exact h
          · simp [List.getElem?_take, List.getElem?_eq_none h] at hj
        rw [hw', hc j hj']
        simp only [List.getElem?_map, List.getElem?_take] at hj
        split at hj
        · rw [List.getElem?_eq_getElem hj'] at hj
          simp at hj
          subst hj
          simp [List.getD_eq_getElem?_getD, List.getElem?_eq_getElem hj']
        · simp at hj)
      have e : ((zs.take len).map (Value.int .u8)).length = len := by simp; omega
      rw [e] at this
      exact this

theorem grownBy_drewN (w : World) (k : Nat) : w.grownBy (w.drewN k) none := ⟨rfl, rfl, rfl, Nat.le_refl _, fun _ _ _ => rfl⟩

def CutPost (a : Option Addr) (len cap : Nat) (w : World) (e : Ending) (w' : World) : Prop :=
  ∃ s a' len' cap' zs', e = .returned (.tuple #[.string s, .slice a' len' cap']) ∧ IsRow .u8 w a' len' cap' zs' ∧ (∀ x : Addr, a' = some x → 0 < cap' → ∃ y : Addr, a = some y ∧ 0 < cap ∧ x.block = y.block) ∧
    ((len' = 0 ∧ s.size = 0) ∨ s.size + len' + 3 = len) ∧ w.grownBy w' none

theorem cut_any (a : Option Addr) (len cap : Nat) (zs : List Int) (w : World) (h : IsRow .u8 w a len cap zs) (hlen : len ≤ 1048576) :
    Calls Tryd.prog 20 #[.slice a len cap] w (CutPost a len cap w) := by
  by_cases h3 : len < 3
  · go_enter Tryd.func20, Tryd.ntmps20
    go_wp2
    go_ret2
    exact ⟨ByteArray.empty, none, 0, 0, [], rfl, .inl ⟨rfl, rfl, rfl, rfl⟩, (fun x hx _ => by cases hx), .inl ⟨rfl, rfl⟩, grownBy_drewN w 0⟩
  · obtain ⟨x, z0, rfl, c0, l0, u0⟩ := h.byte (i := 0) (by omega)
    obtain ⟨x', z1, hx, c1, l1, u1⟩ := h.byte (i := 1) (by omega)
    obtain rfl : x = x' := by injection hx
    obtain ⟨x', z2, hx', c2, l2, u2⟩ := h.byte (i := 2) (by omega)
    obtain rfl : x = x' := by injection hx'
    clear hx hx'
    have c0' : w.cell? x = some (.int .u8 z0) := by simpa [Addr.add] using c0
    have c1' : w.cell? ⟨x.block, x.off + 1, none⟩ = some (.int .u8 z1) := by simpa [Addr.add] using c1
    have c2' : w.cell? ⟨x.block, x.off + 2, none⟩ = some (.int .u8 z2) := by simpa [Addr.add] using c2
    have hcap : len ≤ cap := by
      rcases h with ⟨h, _⟩ | ⟨x', hx, hl, hm, hz, hc, hw⟩
      · cases h
      · exact hl
    have H := Lib.hid h
    clear h c0 c1 c2
    have b0 : (0 : Int) < len := by omega
    have b1 : (1 : Int) < len := by omega
    have b2 : (2 : Int) < len := by omega
    have b0' : 0 < len := by omega
    have b1' : 1 < len := by omega
    have b2' : 2 < len := by omega
    go_enter Tryd.func20, Tryd.ntmps20
    go_upto_region 3 with fail
    go_cut [4] (fun s4 wx => ∃ n k : Nat, s4 = .int .i64 n ∧ n + 3 ≤ len ∧ wx = w.drewN k)
    case first =>
      go_quiet (fail)
      all_goals go_wp2
      all_goals go_meet
      · exact ⟨(z0 * 65536 + z1 * 256 + z2).toNat, _, by go_num, by omega, rfl⟩
      · exact ⟨len - 3, _, by go_num, by omega, rfl⟩
    case rest =>
      obtain ⟨n, k, rfl, hn, rfl⟩ := hcut
      clear c0' c1' c2'
      have cvE : ∀ q, (convert 22 9 (.slice (some x) 0 0)).run Tryd.prog (w.drewN q) = .ok (.string ByteArray.empty) (w.drewN q) := fun q => by
        rw [run_convert_bytes_string (w.drewN q) 22 9 5 (some x) 0 0 Tryd.underlying22 Tryd.underlying5 Tryd.underlying9]
        exact run_bytesToString (w.drewN q) x 0 0 [] (run_loadCells_list (P := Tryd.prog) (w.drewN q) x [] (fun j v hj => by simp at hj))
      by_cases hc3 : cap = 3
      · obtain rfl : cap = 3 := hc3
        obtain rfl : n = 0 := by omega
        obtain rfl : len = 3 := by omega
        clear H
        go_wp2_with fail
        go_quiet (fail)
        go_wp2
        go_ret2
        exact ⟨_, _, _, _, _, rfl, IsRow.none_left, fun y hy hc => by simp at hc, .inl ⟨rfl, rfl⟩, by rw [World.drewN_drewN]; exact grownBy_drewN w _⟩
      · by_cases hcn : cap = 3 + n
        · obtain rfl : cap = 3 + n := hcn
          obtain rfl : len = 3 + n := by omega
          clear cvE
          obtain ⟨s, hs, hcv⟩ := conv_row (H.out.part 3 n (by omega))
          have hcv' : ∀ q, (convert 22 9 (.slice (some ⟨x.block, x.off + 3, none⟩) n n)).run Tryd.prog (w.drewN q) = .ok (.string s) (w.drewN q) := fun q => by
            have := hcv (w.drewN q) (fun _ => rfl)
            simpa [Addr.add] using this
          clear hcv
          have HS := Lib.hid hs
          clear hs
          go_wp2_with fail
          go_quiet (fail)
          go_wp2
          go_ret2
          exact ⟨s, some x, 3 + n - (3 + n), 3 + n - (3 + n), [], rfl, by rw [Nat.sub_self]; exact IsRow.none_left, fun y hy hc => by simp at hc, .inr (by have := HS.out; omega), by rw [World.drewN_drewN]; exact grownBy_drewN w _⟩
        · obtain ⟨s, hs, hcv⟩ := conv_row (H.out.part 3 n (by omega))
          have hcv' : ∀ q, (convert 22 9 (.slice (some ⟨x.block, x.off + 3, none⟩) n (cap - 3))).run Tryd.prog (w.drewN q) = .ok (.string s) (w.drewN q) := fun q => by
            have := hcv (w.drewN q) (fun _ => rfl)
            simpa [Addr.add] using this
          clear hcv cvE
          have HS := Lib.hid hs
          clear hs
          go_wp2_with fail
          go_quiet (fail)
          go_wp2
          go_ret2
          exact ⟨s, some (x.add (3 + n)), len - (3 + n), cap - (3 + n), _, rfl, H.out.part (3 + n) (len - (3 + n)) (by omega), fun y hy _ => ⟨x, rfl, by omega, by injection hy with hy; rw [← hy, add_block]⟩, .inr (by have := HS.out; omega), by rw [World.drewN_drewN]; exact grownBy_drewN w _⟩

theorem infoStr : (Tryd.prog.info? 9).map (fun i => (i.zero, i.size, i.bytes)) = some (some (.string ByteArray.empty), 1, 16) := by kernel_rfl
/-- A slice of strings of the call's own. -/
def Strs (B : Nat) (w : World) (v : Value) (ss : List ByteArray) : Prop := w.ownsRow B 9 1 v ss.length (ss.map Value.string) ∧ v ≠ .slice none 0 0
theorem Strs.kept {B : Nat} {w w' : World} {v : Value} {ss : List ByteArray} {r : Option Nat} (h : Strs B w v ss) (hg : w.grownBy w' r) (hr : ∀ k, v.ownBlock = some k → r ≠ some k) : Strs B w' v ss :=
  ⟨World.ownsRow.kept h.1 hg (by
    cases hv : v.ownBlock with
    | none => exact .inl rfl
    | some k => exact .inr (fun e => hr k hv e.symm)), h.2⟩
theorem Strs.snoc {B : Nat} {w : World} {v : Value} {ss : List ByteArray} {s : ByteArray} (h : w.ownsRow B 9 1 v (ss.length + 1) (ss.map Value.string ++ [.string s])) (hn : ¬v = .slice none 0 0) : Strs B w v (ss ++ [s]) :=
  ⟨by simpa using h, hn⟩
theorem Strs.shape {B : Nat} {w : World} {v : Value} {ss : List ByteArray} (h : Strs B w v ss) : ∃ g cap, v = .slice (some ⟨g, 0, none⟩) ss.length cap ∧ B ≤ g ∧ g < w.heap.size ∧ ss.length ≤ cap ∧ cap ≤ maxLen ∧
    ∀ (j : Nat) s, ss[j]? = some s → w.cell? ⟨g, j, none⟩ = some (.string s) := by
  obtain ⟨h1, h2⟩ := h
  have hlt := h1.lt
  have hcell := fun g hg => h1.cells (g := g) hg
  obtain ⟨_, h3 | ⟨g, cap, cur, e1, e2, e3, e4, e5, e6, e7⟩⟩ := h1
  · exact absurd h3.1 h2
  · subst e1
    refine ⟨g, cap, rfl, e2, (hlt g rfl).2, e4, e5, fun j s hj => ?_⟩
    have := hcell g rfl j (.string s) (by rw [List.getElem?_map, hj]; rfl)
    have e : (⟨g, 0, none⟩ : Addr).add j = ⟨g, j, none⟩ := by unfold Addr.add; split <;> simp_all
    rwa [e] at this
theorem Strs.blk {B : Nat} {w : World} {v : Value} {ss : List ByteArray} (h : Strs B w v ss) : ∀ k, v.ownBlock = some k → B ≤ k ∧ k < w.heap.size := h.1.lt
theorem one_cells (w : World) (v : Value) (t : TypeId) : ∀ (j : Nat) (u : Value), [v][j]? = some u → (w.alloc (.cells #[v] t)).cell? ((⟨w.heap.size, 0, none⟩ : Addr).add j) = some u := by
  intro j u hj
  match j, hj with
  | 0, hj => simp at hj; subst hj; simp [Addr.add]
def tot (ss : List ByteArray) : Nat := (ss.map ByteArray.size).sum + ss.length
theorem tot_snoc (ss : List ByteArray) (s : ByteArray) : tot (ss ++ [s]) = tot ss + s.size + 1 := by simp [tot]; omega
theorem tot_len (ss : List ByteArray) : ss.length ≤ tot ss := by simp [tot]
def sliceLen : Value → Nat | .slice _ n _ => n | _ => 0
def CutAllPost (len : Nat) (w : World) (e : Ending) (w' : World) : Prop :=
  ∃ v ss, e = .returned v ∧ Strs w.heap.size w' v ss ∧ tot ss ≤ len ∧ Below w.heap.size w w'
def CutRel (w : World) (B len : Nat) (b v : Value) (wr : World) : Prop :=
  ∃ a' len' cap' zs' ss, b = .slice a' len' cap' ∧ IsRow .u8 wr a' len' cap' zs' ∧ (∀ x : Addr, a' = some x → 0 < cap' → x.block < B) ∧ Strs B wr v ss ∧ tot ss + len' ≤ len ∧ Below B w wr
theorem cutAll_any (a : Option Addr) (len cap : Nat) (zs : List Int) (w : World) (h : IsRow .u8 w a len cap zs) (hlen : len ≤ 1048576) :
    Calls Tryd.prog 33 #[.slice a len cap] w (CutAllPost len w) := by
  obtain ⟨i0, hi, hz0, hz1, hz2⟩ := info_parts infoStr
  have H0 := Lib.hid h
  have HB := Lib.hid h.blk
  clear h
  go_enter Tryd.func33, Tryd.ntmps33
  go_wp2
  go_loopw [0, 3] (fun b v wr => CutRel w w.heap.size len b v wr) (fun b _ _ => sliceLen b)
  case atStart => exact ⟨a, len, cap, zs, [], rfl, H0.out.grown (World.grownBy_alloc w _ none) (fun x _ _ e => by cases e), HB.out, ⟨World.ownsRow_made w #[] 0 (Nat.le_refl _) (by unfold maxLen; omega) rfl, by simp⟩, by simp [tot], (Below.refl _ _).alloc (Nat.le_refl _) _⟩
  case round =>
    clear H0 HB
    obtain ⟨a', len', cap', zs', ss, rfl, hrow, hbl, hown, htot, hbel⟩ := hrel
    have hO := Lib.hid hown
    have hBe := Lib.hid hbel
    by_cases h0 : 0 < len'
    · have hR := Lib.hid hrow
      have hBl := Lib.hid hbl
      clear hrow hown hbl hbel
      go_wp2_with fail
      refine (cut_any a' len' cap' zs' _ hR.out (by omega)).mono ?_
      rintro e w1 ⟨s, a2, len2, cap2, zs2, rfl, hrow2, hbl2, hsz, hg1⟩
      have hR2 := Lib.hid (hrow2.grown hg1 (fun _ _ _ e => by cases e))
      have hBl2 := Lib.hid hbl2
      have hS := Lib.hid hsz
      have hO1 := Lib.hid (Strs.kept hO.out hg1 (fun _ _ e => by cases e))
      have hB1 := Lib.hid (hBe.out.grown hg1 hBe.out.size (fun _ e => by cases e))
      clear hrow2 hbl2 hsz hg1
      have tl := tot_len ss
      go_wp2_with (at_builtin; refine wpList_append_own _ rfl _ _ 40 rfl w.heap.size 9 i0 (.string ByteArray.empty) 1 16 Tryd.underlying40 hi hz0 hz1 hz2 rfl (by decide) _ _ _ rfl (hO1.out.1.alloc _) ⟨w1.heap.size, 0, none⟩ 1 1 [.string s] rfl rfl ?c1 ?c2 ?c3 ?c4 ?c5 ?_)
      case c1 => exact one_cells _ _ _
      case c2 => intro u hu; simp at hu; subst hu; rfl
      case c3 => unfold maxLen; omega
      case c4 => omega
      case c5 => have := hB1.out.size; simp; omega
      · intro v' w2 hown' hgrow hnn
        have hS2 := Lib.hid (Strs.snoc hown' hnn)
        have hne : ∀ k, u3.ownBlock = some k → w.heap.size ≤ k := fun k hk => (hO1.out.blk k hk).1
        have hR3 := Lib.hid ((hR2.out.grown (World.grownBy_alloc w1 (.cells #[.string s] 9) none) (fun _ _ _ e => by cases e)).grown hgrow (fun x hx hc e => by
          obtain ⟨y, hy, hyc, hxy⟩ := hBl2.out x hx hc
          have h1 := hBl.out y hy hyc
          have h2 := hne _ e.symm
          omega))
        have hB3 := Lib.hid ((hB1.out.alloc hB1.out.size (.cells #[.string s] 9)).grown hgrow (by have := hB1.out.size; simp; omega) hne)
        clear hown' hgrow hnn
        go_wp2
        go_roundw
        case rel => exact ⟨a2, len2, cap2, zs2, ss ++ [s], rfl, hR3.out, fun x hx hc => by obtain ⟨y, hy, hyc, hxy⟩ := hBl2.out x hx hc; have := hBl.out y hy hyc; omega, hS2.out, by rw [tot_snoc]; have := hS.out; omega, hB3.out⟩
        case measure => have := hS.out; simp [sliceLen]; omega
    · clear hrow hbl hown hbel
      go_wp2
      go_ret
      exact ⟨_, ss, rfl, hO.out, by omega, hBe.out⟩

end Go.Proofs.YtcoaoheakeodoaaDoor

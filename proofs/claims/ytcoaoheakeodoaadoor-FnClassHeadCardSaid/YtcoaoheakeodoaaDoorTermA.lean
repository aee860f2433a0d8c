/-
  Ranges of classes in memory; someRanges: its contract. Conditions: none beyond those of each theorem.
-/
import Derived.Test.YtcoaoheakeodoaaDoorDrawE
import Derived.Deep.AppendLies
import Derived.Deep.DeepCutAuto
import Derived.Deep.CutBlock
namespace Go.Proofs.YtcoaoheakeodoaaDoor
open Go.ChangeShapes Go.WideShapes Go.ChangeAt Go.RowKit

def rcells (rs : List (Int × Int)) : List Value := rs.flatMap fun r => [.int .i32 r.1, .int .i32 r.2]
theorem rcells_len (rs : List (Int × Int)) : (rcells rs).length = rs.length * 2 := by
  induction rs with
  | nil => rfl
  | cons r rs ih => simp [rcells] at ih ⊢; omega
theorem rcells_at : ∀ (rs : List (Int × Int)) (j : Nat) (r : Int × Int), rs[j]? = some r → (rcells rs)[2 * j]? = some (.int .i32 r.1) ∧ (rcells rs)[2 * j + 1]? = some (.int .i32 r.2)
  | [], j, r, h => by simp at h
  | x :: rs, 0, r, h => by
    simp at h
    subst h
    exact ⟨rfl, rfl⟩
  | x :: rs, j + 1, r, h => by
    have := rcells_at rs j r (by simpa using h)
    have e : rcells (x :: rs) = .int .i32 x.1 :: .int .i32 x.2 :: rcells rs := rfl
    rw [e]
    have e1 : 2 * (j + 1) = 2 * j + 1 + 1 := by omega
    rw [e1]
    simpa using this

theorem infoR : (Tryd.prog.info? 63).map (fun i => (i.zero, i.size, i.bytes)) = some (some (.agg #[.int .i32 0, .int .i32 0]), 2, 8) := by kernel_rfl

/-- A slice of ranges of the call's own. -/
def OwnR (B : Nat) (w : World) (v : Value) (rs : List (Int × Int)) : Prop := w.ownsRow B 63 2 v rs.length (rcells rs)

/-- Ranges that are read. -/
def RangesAt (w : World) (v : Value) (rs : List (Int × Int)) : Prop :=
  (v = .slice none 0 0 ∧ rs = []) ∨ ∃ g cap, v = .slice (some ⟨g, 0, none⟩) rs.length cap ∧ rs.length ≤ cap ∧ cap ≤ maxLen ∧ g < w.heap.size ∧
    ∀ (j : Nat) (r : Int × Int), rs[j]? = some r → w.cell? ⟨g, 2 * j, none⟩ = some (.int .i32 r.1) ∧ w.cell? ⟨g, 2 * j + 1, none⟩ = some (.int .i32 r.2)

theorem OwnR.at {B : Nat} {w : World} {v : Value} {rs : List (Int × Int)} (h : OwnR B w v rs) : RangesAt w v rs := by
  have h1 := h
  have hlt := h1.lt
  have hcell := fun g hg => World.ownsRow.cells (g := g) h1 hg
  obtain ⟨_, h3 | ⟨g, cap, cur, e1, e2, e3, e4, e5, e6, e7⟩⟩ := h1
  · exact .inl ⟨h3.1, List.length_eq_zero_iff.1 h3.2⟩
  · subst e1
    refine .inr ⟨g, cap, rfl, e4, e5, (hlt g rfl).2, fun j r hj => ?_⟩
    obtain ⟨a1, a2⟩ := rcells_at rs j r hj
    have b1 := hcell g rfl _ _ a1
    have b2 := hcell g rfl _ _ a2
    have e : ∀ k, (⟨g, 0, none⟩ : Addr).add k = ⟨g, k, none⟩ := fun k => by unfold Addr.add; split <;> simp_all
    rw [e] at b1 b2
    exact ⟨b1, b2⟩

theorem RangesAt.grown {w w' : World} {v : Value} {rs : List (Int × Int)} {r : Option Nat} (h : RangesAt w v rs) (hg : w.grownBy w' r) (hr : ∀ k, v.ownBlock = some k → r ≠ some k) : RangesAt w' v rs := by
  rcases h with h | ⟨g, cap, rfl, h1, h2, h3, h4⟩
  · exact .inl h
  · refine .inr ⟨g, cap, rfl, h1, h2, Nat.lt_of_lt_of_le h3 hg.size, fun j x hj => ?_⟩
    obtain ⟨a1, a2⟩ := h4 j x hj
    have hn : some g ≠ r := fun e => hr g rfl e.symm
    exact ⟨hg.cell a1 hn, hg.cell a2 hn⟩

/-- No number is negative, none is great. -/
def Nn (rs : List (Int × Int)) : Prop := ∀ r ∈ rs, 0 ≤ r.1 ∧ r.1 ≤ 2000000 ∧ 0 ≤ r.2 ∧ r.2 ≤ 2000000
theorem Nn.nil : Nn [] := fun r hr => by cases hr
theorem Nn.snoc {rs : List (Int × Int)} (h : Nn rs) (a b : Int) (h1 : 0 ≤ a) (h2 : a ≤ 2000000) (h3 : 0 ≤ b) (h4 : b ≤ 2000000) : Nn (rs ++ [(a, b)]) := by
  intro r hr
  rcases List.mem_append.1 hr with hr | hr
  · exact h r hr
  · obtain rfl := List.mem_singleton.1 hr
    exact ⟨h1, h2, h3, h4⟩

def RPost (base B : Nat) (m : Int) (w : World) (e : Ending) (w' : World) : Prop := ∃ v rs, e = .returned v ∧ OwnR w.heap.size w' v rs ∧ 1 ≤ rs.length ∧ rs.length ≤ 3 ∧ Nn rs ∧ Drew base B (m + 10) w w'
def RRel (base B : Nat) (m : Int) (w : World) (out n : Value) (wr : World) : Prop :=
  ∃ (k : Nat) (rs : List (Int × Int)), n = .int .i64 k ∧ k ≤ 3 ∧ OwnR w.heap.size wr out rs ∧ rs.length + k ≤ 3 ∧ 1 ≤ rs.length + k ∧ Nn rs ∧ Drew base B (m + 1 + 3 * (3 - k)) w wr

theorem someRanges_any (base B : Nat) (m : Int) (w : World) (h : Rd base w B m) (h0 : 0 ≤ m) (hm : m ≤ 800000) :
    Calls Tryd.prog 52 #[.pointer (some ⟨B, 0, none⟩)] w (RPost base B m w) := by
  obtain ⟨i0, hi, hz0, hz1, hz2⟩ := info_parts infoR
  have hR0 := Lib.hid (h.grown (World.grownBy_alloc w (.cells #[] 63) none) (fun k e => by cases e))
  have hlt := h.lt
  clear h
  go_enter Tryd.func52, Tryd.ntmps52
  go_wp2_with fail
  refine (pick_any base B m 3 _ hR0.out (by omega) (by omega)).mono ?_
  rintro e w1 ⟨x, rfl, hx0, hx1, hx2, hRd, hg⟩
  have hX := hx1 (by omega)
  have hD : Hid (Drew base B (m + 1) w w1) := ⟨hRd, (World.grownBy_alloc w (.cells #[] 63) (some B)).trans hg⟩
  have hO : Hid (OwnR w.heap.size w1 (.slice (some ⟨w.heap.size, 0, none⟩) 0 0) []) := World.ownsRow.kept (World.ownsRow_made w #[] 0 (Nat.le_refl _) (by unfold maxLen; omega) rfl) hg (.inr (by show some w.heap.size ≠ some B; intro e; injection e with e; omega))
  clear hRd hg hR0 hx1 hx2
  obtain ⟨k, rfl⟩ := Int.eq_ofNat_of_zero_le hx0
  go_wp2
  go_loopw [3, 4] (fun o n wr => RRel base B m w o n wr) (fun _ n _ => (intOf n).toNat)
  case atStart => exact ⟨k + 1, [], by go_num, by omega, hO.out, by simp; omega, by simp, Nn.nil, hD.out.1.mono (by omega), hD.out.2⟩
  case round =>
    clear hD hO hX hx0
    obtain ⟨k, rs, rfl, hk, hown, hl1, hl2, hnn, hDr⟩ := hrel
    have HN := Lib.hid hnn
    clear hnn
    have hD := Lib.hid hDr
    have hO := Lib.hid hown
    have hne : Hid (∀ j, u3.ownBlock = some j → w.heap.size ≤ j) := fun j hj => (hown.lt j hj).1
    clear hDr hown
    by_cases hk0 : 0 < k
    · go_wp2_with fail
      refine (someRune_any base B _ _ hD.out.1 (by omega) (by omega)).mono ?_
      rintro e w2 ⟨c, rfl, hc0, hc1, hDr⟩
      have hO2 := Lib.hid (World.ownsRow.kept hO.out hDr.2 (.inr (by intro e; have := hne.out B e; omega)))
      have hD2 := Lib.hid (hD.out.trans hDr)
      clear hDr hD hO
      go_wp2_with fail
      refine (pick_any base B _ 4 _ hD2.out.1 (by omega) (by omega)).mono ?_
      rintro e w3 ⟨x, rfl, hx0, hx1, hx2, hRd, hg⟩
      have hO3 := Lib.hid (World.ownsRow.kept hO2.out hg (.inr (by intro e; have := hne.out B e; omega)))
      have hD3 := Lib.hid (hD2.out.trans ⟨hRd, hg⟩)
      clear hRd hg hD2 hO2 hx1 hx2
      go_upto_block 2 with (fail)
      go_cut [6] (fun h wx => ∃ hi : Int, h = .int .i32 hi ∧ (0 ≤ hi ∧ hi ≤ 2000000) ∧ OwnR w.heap.size wx u3 rs ∧ Drew base B (m + 1 + 3 * (3 - k) + 3) w wx)
      case first =>
        by_cases hx : x = 0
        · obtain rfl : x = 0 := hx
          go_wp2_with fail
          refine (pick_any base B _ 4 _ hD3.out.1 (by omega) (by omega)).mono ?_
          rintro e w4 ⟨y, rfl, hy0, hy1, hy2, hRd, hg⟩
          have hY := hy1 (by omega)
          have hO4 := Lib.hid (World.ownsRow.kept hO3.out hg (.inr (by intro e; have := hne.out B e; omega)))
          have hD4 := Lib.hid (hD3.out.trans ⟨hRd, hg⟩)
          clear hRd hg hD3 hO3 hy1 hy2
          go_wp2
          go_meet
          exact ⟨_, rfl, ⟨by omega, by omega⟩, hO4.out, hD4.out.1.mono (by omega), hD4.out.2⟩
        · by_cases hx1 : x = 1
          · obtain rfl : x = 1 := hx1
            clear hx
            go_wp2_with fail
            refine (someRune_any base B _ _ hD3.out.1 (by omega) (by omega)).mono ?_
            rintro e w4 ⟨d, rfl, hd0, hd1, hDr⟩
            have hO4 := Lib.hid (World.ownsRow.kept hO3.out hDr.2 (.inr (by intro e; have := hne.out B e; omega)))
            have hD4 := Lib.hid (hD3.out.trans hDr)
            clear hDr hD3 hO3
            go_wp2
            go_meet
            exact ⟨d, rfl, ⟨by omega, by omega⟩, hO4.out, hD4.out.1.mono (by omega), hD4.out.2⟩
          · have e0 : (x == 0) = false := by simpa using hx
            have e1 : (x == 1) = false := by simpa using hx1
            clear hx hx1
            go_wp2
            go_meet
            exact ⟨c, rfl, ⟨by omega, by omega⟩, hO3.out, hD3.out.1.mono (by omega), hD3.out.2⟩
      case rest =>
        clear hO3 hD3 hx0
        obtain ⟨hi2, rfl, ⟨hh0, hh1⟩, hown, hDr⟩ := hcut
        have hO := Lib.hid hown
        have hD := Lib.hid hDr
        clear hown hDr
        go_wp2_with (at_builtin; refine wpList_append_own _ rfl _ _ 31 rfl w.heap.size 63 i0 (.agg #[.int .i32 0, .int .i32 0]) 2 8 Tryd.underlying31 hi hz0 hz1 hz2 rfl (by decide) _ _ _ rfl (hO.out.alloc _) ⟨wc.heap.size, 0, none⟩ 1 1 [.int .i32 c, .int .i32 hi2] rfl rfl ?c1 ?c2 ?c3 ?c4 ?c5 ?_)
        case c1 => exact cell_two_new _ _ _ _
        case c2 => intro u hu; simp at hu; rcases hu with rfl | rfl <;> rfl
        case c3 => unfold maxLen; omega
        case c4 => omega
        case c5 => have := hD.out.2.size; simp; omega
        · intro v' w4 hown' hgrow hnn
          have hO4 : Hid (OwnR w.heap.size w4 v' (rs ++ [(c, hi2)])) := by
            apply Lib.hid
            unfold OwnR
            have e : rcells (rs ++ [(c, hi2)]) = rcells rs ++ [.int .i32 c, .int .i32 hi2] := by simp [rcells]
            rw [e, List.length_append]
            exact hown'
          have hD4 : Hid (Drew base B (m + 1 + 3 * (3 - k) + 3) w w4) := (hD.out.more (World.grownBy_alloc wc (.cells #[.int .i32 c, .int .i32 hi2] 63) none) hlt (fun _ e => by cases e)).more hgrow hlt (fun j e => hne.out j e)
          clear hown' hgrow hnn
          go_wp2
          go_roundw
          case rel => exact ⟨k - 1, rs ++ [(c, hi2)], by go_num, by omega, hO4.out, by simp; omega, by simp; omega, HN.out.snoc c hi2 (by omega) (by omega) hh0 hh1, hD4.out.1.mono (by omega), hD4.out.2⟩
          case measure => simp [intOf]; omega
    · obtain rfl : k = 0 := by omega
      go_wp2
      go_ret
      exact ⟨_, rs, rfl, hO.out, by omega, by omega, HN.out, hD.out.1.mono (by omega), hD.out.2⟩

end Go.Proofs.YtcoaoheakeodoaaDoor

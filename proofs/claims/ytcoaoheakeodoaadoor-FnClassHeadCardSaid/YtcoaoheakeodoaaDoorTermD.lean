/-
  nameFor: its contract. Conditions: none beyond those of each theorem.
-/
import Derived.Test.YtcoaoheakeodoaaDoorTermC
import Derived.Deep.RegionWith
namespace Go.Proofs.YtcoaoheakeodoaaDoor
open Go.ChangeShapes Go.WideShapes Go.ChangeAt Go.RowKit

theorem TermsAt.form {lo : Nat} {w : World} {v : Value} {ts : List TV} (h : TermsAt lo w v ts) : ∃ a cap, v = .slice a ts.length cap ∧
    ∀ (j : Nat) (t : TV), ts[j]? = some t → ∃ g, a = some ⟨g, 0, none⟩ ∧ lo ≤ g ∧ g < w.heap.size ∧ ts.length ≤ cap ∧ cap ≤ maxLen ∧
      w.cell? ⟨g, 4 * j, none⟩ = some (.int .i64 t.kind) ∧ w.cell? ⟨g, 4 * j + 1, none⟩ = some (.int .i32 t.chr) ∧ w.cell? ⟨g, 4 * j + 2, none⟩ = some (.bool t.neg) ∧ w.cell? ⟨g, 4 * j + 3, none⟩ = some t.rv := by
  have h1 := h.1
  have hlt := h1.lt
  have hcell := fun g hg => World.ownsRow.cells (g := g) h1 hg
  obtain ⟨_, h3 | ⟨g, cap, cur, e1, e2, e3, e4, e5, e6, e7⟩⟩ := h1
  · obtain ⟨e, hl⟩ := h3
    rw [hl]
    refine ⟨none, 0, e, fun j t hj => ?_⟩
    have := List.length_eq_zero_iff.1 hl
    subst this
    simp at hj
  · subst e1
    refine ⟨some ⟨g, 0, none⟩, cap, rfl, fun j t hj => ⟨g, rfl, e2, (hlt g rfl).2, e4, e5, ?_⟩⟩
    obtain ⟨a1, a2, a3, a4⟩ := tcells_at ts j t hj
    have e : ∀ k, (⟨g, 0, none⟩ : Addr).add k = ⟨g, k, none⟩ := fun k => by unfold Addr.add; split <;> simp_all
    have b1 := hcell g rfl _ _ a1
    have b2 := hcell g rfl _ _ a2
    have b3 := hcell g rfl _ _ a3
    have b4 := hcell g rfl _ _ a4
    rw [e] at b1 b2 b3 b4
    exact ⟨b1, b2, b3, b4⟩

/-- pick, among ranges that lie in memory; the world may have drawn since. -/
theorem pick_range (base B : Nat) (m : Int) (W W' : World) (g0 : W.grownBy W' none) (hR : Rd base W B m) (h0 : 0 ≤ m) (hm : m ≤ 900000)
    (g2 V : Nat) (rv : Value) (rs : List (Int × Int)) (hr1 : 1 ≤ rs.length) (hr3 : rs.length ≤ 1000) (hg2 : g2 ≠ B) (hV : V ≠ B) (hc : W.cell? ⟨V, 3, none⟩ = some rv)
    (hcs : ∀ (j : Nat) (r : Int × Int), rs[j]? = some r → W.cell? ⟨g2, 2 * j, none⟩ = some (.int .i32 r.1) ∧ W.cell? ⟨g2, 2 * j + 1, none⟩ = some (.int .i32 r.2)) :
    Calls Tryd.prog 24 #[.pointer (some ⟨B, 0, none⟩), .int .i64 rs.length] W' fun e w2 => ∃ (j : Nat) (r1 r2 : Int), e = .returned (.int .i64 j) ∧ j < rs.length ∧ w2.cell? ⟨g2, j * 2, none⟩ = some (.int .i32 r1) ∧ w2.cell? ⟨g2, j * 2 + 1, none⟩ = some (.int .i32 r2) ∧ w2.cell? ⟨V, 3, none⟩ = some rv ∧ Drew base B (m + 1) W w2 ∧ W'.grownBy w2 (some B) := by
  have g0' : W.grownBy W' (some B) := ⟨g0.os, g0.tape, g0.output, g0.size, fun k hk _ => g0.block k hk (by simp)⟩
  refine (pick_any base B m rs.length W' (hR.grown g0 (fun _ e => by cases e)) (by omega) (by omega)).mono ?_
  rintro e w2 ⟨x, rfl, hx0, hx1, hx2, hRd, hg⟩
  have hX := hx1 (by omega)
  obtain ⟨j, rfl⟩ := Int.eq_ofNat_of_zero_le hx0
  have hj : j < rs.length := by omega
  obtain ⟨q1, q2⟩ := hcs j rs[j] (List.getElem?_eq_getElem hj)
  have hg' := g0'.trans hg
  have e2 : j * 2 = 2 * j := Nat.mul_comm _ _
  rw [← e2] at q1 q2
  exact ⟨j, _, _, rfl, hj, hg'.cell q1 (by intro e; injection e with e; exact hg2 e), hg'.cell q2 (by intro e; injection e with e; exact hg2 e), hg'.cell hc (by intro e; injection e with e; exact hV e), ⟨hRd, hg'⟩, hg⟩

theorem grown_drew {w w' : World} {r : Option Nat} (h : w.grownBy w' r) : w.grownBy w'.drew r := ⟨h.os, h.tape, h.output, h.size, h.block⟩

theorem range_new {W w2 : World} {B N : Nat} (hg : (W.alloc (.cells #[.int .i32 0, .int .i32 0] 63)).drew.grownBy w2 (some B)) (hB : B < W.heap.size) (hN : W.heap.size = N) :
    w2.cell? ⟨N, 0, none⟩ = some (.int .i32 0) ∧ w2.cell? ⟨N, 1, none⟩ = some (.int .i32 0) ∧ w2.frozen? ⟨N, 0, none⟩ = false ∧ w2.frozen? ⟨N, 1, none⟩ = false := by
  have h : w2.heap[N]? = some (.cells #[.int .i32 0, .int .i32 0] 63 (0, 0)) := by
    rw [← hN, hg.block W.heap.size (by simp) (by intro e; injection e with e; omega)]
    exact heap_alloc_new W _
  simp [World.cell?, World.frozen?, h]

theorem drew_set2 {base B N : Nat} {m : Int} {w w2 : World} {a : Value} (h : Drew base B m w w2) (hN : w.heap.size ≤ N) (hlt : B < w.heap.size) (z0 : w2.cell? ⟨N, 0, none⟩ = some a) (u v : Int) :
    ((w2.setCell ⟨N, 0, none⟩ (.int .i32 u)).setCell ⟨N, 1, none⟩ (.int .i32 v)).cell? ⟨N, 0, none⟩ = some (.int .i32 u) ∧ Drew base B m w ((w2.setCell ⟨N, 0, none⟩ (.int .i32 u)).setCell ⟨N, 1, none⟩ (.int .i32 v)) := by
  refine ⟨?_, h.more ((show w2.grownBy (w2.setCell ⟨N, 0, none⟩ _) (some N) from grownBy_setCell w2 _ 0 _ 0).trans (grownBy_setCell _ _ 1 _ 0)) hlt (fun j e => by injection e with e; omega)⟩
  rw [World.cell?_setCell_other]
  · exact World.cell?_setCell_same _ _ _ z0
  · intro e
    injection e with _ e
    cases e

def NameRel (base B : Nat) (m : Int) (n : Nat) (w : World) (out i : Value) (wr : World) : Prop :=
  ∃ (k : Nat) (s : ByteArray), i = .int .i64 k ∧ k ≤ n ∧ out = .string s ∧ s.size ≤ 16 * k ∧ Drew base B (m + 5 * k) w wr

set_option maxHeartbeats 2000000 in
theorem nameFor_any (base B : Nat) (m : Int) (lo : Nat) (v : Value) (ts : List TV) (w : World) (h : Rd base w B m) (hT : TermsAt lo w v ts) (hlo : B < lo) (hts : ts.length ≤ 100) (h0 : 0 ≤ m) (hm : m ≤ 500000) :
    Calls Tryd.prog 22 #[.pointer (some ⟨B, 0, none⟩), v] w (TextPost base B (m + 30 + 5 * ts.length) (16 * ts.length + 64) w) := by
  obtain ⟨a, cap, rfl, _⟩ := hT.form
  have hR0 := Lib.hid h
  have HT := Lib.hid hT
  have hlt := h.lt
  clear h hT
  go_enter Tryd.func22, Tryd.ntmps22
  go_wp2
  go_loopw [5, 6] (fun o i wr => NameRel base B m ts.length w o i wr) (fun _ i _ => ts.length - (intOf i).toNat)
  case atStart => exact ⟨0, ByteArray.empty, rfl, by omega, rfl, by simp, hR0.out.mono (by omega), World.grownBy.refl w _⟩
  case round =>
    clear hR0
    obtain ⟨k, s, rfl, hk, rfl, hs, hDr⟩ := hrel
    have hD := Lib.hid hDr
    clear hDr
    by_cases hkl : k < ts.length
    · have hT1 := HT.out.kept hD.out.2 (fun j e => by injection e with e; omega)
      obtain ⟨t, ht⟩ : ∃ t, ts[k]? = some t := ⟨ts[k], List.getElem?_eq_getElem hkl⟩
      have hgood := Lib.hid (hT1.2 t (List.mem_of_getElem? ht)).1
      obtain ⟨a', cap', hv', hcells⟩ := hT1.form
      obtain ⟨rfl, rfl⟩ : a = a' ∧ cap = cap' := by injection hv' with e1 e2 e3; exact ⟨e1, e3⟩
      obtain ⟨g, rfl, hg1, hg2, hcl, hcm, c0, c1, c2, c3⟩ := hcells k t ht
      clear hT1 hcells ht hv'
      obtain ⟨tk, tc, tn, trv⟩ := t
      obtain ⟨ra, rn, rc, hrv⟩ := hgood.out.form
      obtain rfl : trv = .slice ra rn rc := hrv
      have e4 : k * 4 = 4 * k := by omega
      have hsz0 := hD.out.2.size
      have hD1 := Lib.hid (hD.out.more (World.grownBy_alloc wr (.cells #[.int .i64 tk, .int .i32 tc, .bool tn, .slice ra rn rc] 33) none) hlt (fun _ e => by cases e))
      have hG1 := Lib.hid (hgood.out.grown (World.grownBy_alloc wr (.cells #[.int .i64 tk, .int .i32 tc, .bool tn, .slice ra rn rc] 33) none) (fun _ _ e => by cases e))
      clear hD hgood
      clear HT
      by_cases hk0 : tk = 0
      · obtain rfl : tk = 0 := hk0
        go_wp2_with fail
        refine (noSlash_any base B _ 3 _ hD1.out.1 (by omega) (by omega) (by omega)).mono ?_
        rintro e w2 ⟨u, rfl, hu, hDr⟩
        have hD2 := Lib.hid (hD1.out.trans hDr)
        clear hDr hD1
        go_wp2
        go_roundw
        case rel => exact ⟨k + 1, s ++ u, by go_num, by omega, rfl, by simp; omega, hD2.out.mono (by omega)⟩
        case measure => simp [intOf]; omega
      · by_cases hk3 : tk = 3
        · obtain rfl : tk = 3 := hk3
          have hz := encode_size_le tc
          clear hk0
          go_wp2
          go_roundw
          case rel => exact ⟨k + 1, _, by go_num, by omega, rfl, by simp; omega, hD1.out.mono (by omega)⟩
          case measure => simp [intOf]; omega
        · have b0 : (tk == 0) = false := by simpa using hk0
          have b3 : (tk == 3) = false := by simpa using hk3
          by_cases hk2 : tk = 2 ∧ tn = false
          · obtain ⟨rfl, rfl⟩ := hk2
            clear hk0 hk3
            obtain ⟨rs, hra, hrb, hrc, hrl, _⟩ := hG1.out
            obtain ⟨g2, cp2, hcell2⟩ : ∃ g2 cp2, Value.slice ra rn rc = .slice (some ⟨g2, 0, none⟩) rs.length cp2 ∧ g2 < (wr.alloc (.cells #[.int .i64 2, .int .i32 tc, .bool false, .slice ra rn rc] 33)).heap.size ∧ rs.length ≤ cp2 ∧ lo ≤ g2 ∧ ∀ (j : Nat) (r : Int × Int), rs[j]? = some r → (wr.alloc (.cells #[.int .i64 2, .int .i32 tc, .bool false, .slice ra rn rc] 33)).cell? ⟨g2, 2 * j, none⟩ = some (.int .i32 r.1) ∧ (wr.alloc (.cells #[.int .i64 2, .int .i32 tc, .bool false, .slice ra rn rc] 33)).cell? ⟨g2, 2 * j + 1, none⟩ = some (.int .i32 r.2) := by
              rcases hra with ⟨_, h2⟩ | ⟨g2, cp2, h1, h2, h3, h4, h5⟩
              · have := hrc rfl
                rw [h2] at this
                simp at this
              · exact ⟨g2, cp2, h1, h4, h2, (hrb g2 (by show (Value.slice ra rn rc).ownBlock = _; have h1' : Value.slice ra rn rc = .slice (some ⟨g2, 0, none⟩) rs.length cp2 := h1; rw [h1']; rfl)).1, h5⟩
            obtain ⟨he, hg2, hlc2, hlo2, hcells2⟩ := hcell2
            injection he with he1 he2 he3
            subst he1
            subst he2
            subst he3
            have hr1 := hrc rfl
            have HC2 := Lib.hid hcells2
            clear hcells2 hra hrb hrc hG1
            have hsz := hD1.out.2.size
            have hszB : B ≠ wr.heap.size := by
              have := hD1.out.1.lt
              intro e
              have h2 : w.heap.size ≤ wr.heap.size := hsz0
              omega
            have ct0 : (wr.alloc (.cells #[.int .i64 2, .int .i32 tc, .bool false, .slice (some ⟨g2, 0, none⟩) rs.length rc] 33)).cell? ⟨wr.heap.size, 3, none⟩ = some (.slice (some ⟨g2, 0, none⟩) rs.length rc) := (blk4 (heap_alloc_new wr _)).2.2.2.1
            have ct : ∀ w' : World, (wr.alloc (.cells #[.int .i64 2, .int .i32 tc, .bool false, .slice (some ⟨g2, 0, none⟩) rs.length rc] 33)).grownBy w' (some B) → w'.cell? ⟨wr.heap.size, 3, none⟩ = some (.slice (some ⟨g2, 0, none⟩) rs.length rc) := fun w' hg => hg.cell ct0 (by intro e; injection e with e; exact hszB e.symm)
            have HCT := Lib.hid ct
            clear ct
            go_upto_region 12 with (fail)
            have hBsz : B < (wr.alloc (.cells #[.int .i64 2, .int .i32 tc, .bool false, .slice (some ⟨g2, 0, none⟩) rs.length rc] 33)).heap.size := hD1.out.1.lt
            have hNN : Hid ((wr.alloc (.cells #[.int .i64 2, .int .i32 tc, .bool false, .slice (some ⟨g2, 0, none⟩) rs.length rc] 33)).heap.size = wr.heap.size + 1) := Lib.hid (by simp)
            have hpk := Lib.hid (fun W' a1 => pick_range base B (m + 5 * k) (wr.alloc (.cells #[.int .i64 2, .int .i32 tc, .bool false, .slice (some ⟨g2, 0, none⟩) rs.length rc] 33)) W' a1 hD1.out.1 (by omega) (by omega) g2 wr.heap.size _ rs hr1 (by omega) (by omega) (fun e => hszB e.symm) ct0 HC2.out)
            have hD1' := Lib.hid hD1.out
            go_cut [8] (fun v wx => ∃ (g3 : Nat) (r1 : Int), v = .pointer (some ⟨g3, 0, none⟩) ∧ wx.cell? ⟨g3, 0, none⟩ = some (.int .i32 r1) ∧ Drew base B (m + 5 * k + 1) w wx)
            case first =>
              go_region_with ((go_at_call 24; refine (hpk.out _ ?_).mono ?_; (first | exact ⟨rfl, rfl, rfl, Nat.le_refl _, fun _ _ _ => rfl⟩ | exact grown_drew (World.grownBy_alloc _ _ none)); rintro e w2 ⟨j, r1, r2, rfl, hX, q1, q2, hct2, hDx, hgx⟩; (try (obtain ⟨z0, z1, z2, z3⟩ := range_new hgx hBsz hNN.out)); clear hgx; have n1 : g2 < w2.heap.size := World.block_lt_of_cell? w2 _ q1; have n3 : wr.heap.size < w2.heap.size := World.block_lt_of_cell? w2 _ hct2))
              all_goals
                go_wp2
                go_meet
                first
                  | exact ⟨_, r1, rfl, by simp, (hD1'.out.trans hDx).more (World.grownBy_alloc w2 _ none) hlt (fun _ e => by cases e)⟩
                  | exact ⟨_, r1, rfl, (drew_set2 (hD1'.out.trans hDx) (by omega) hlt z0 r1 r2).1, (drew_set2 (hD1'.out.trans hDx) (by omega) hlt z0 r1 r2).2⟩
            case rest =>
              clear hD1 hD1' hpk HC2 HCT
              obtain ⟨g3, r1, rfl, hc3, hDr⟩ := hcut
              have hz := encode_size_le r1
              have hD2 := Lib.hid hDr
              clear hDr
              go_wp2
              go_roundw
              case rel => exact ⟨k + 1, _, by go_num, by omega, rfl, by simp; omega, hD2.out.mono (by omega)⟩
              case measure => simp [intOf]; omega
          · have b2 : (tk == 2) = false ∨ ((tk == 2) = true ∧ tn = true) := by
              by_cases h2 : tk = 2
              · exact .inr ⟨by simpa using h2, by cases tn with | true => rfl | false => exact absurd ⟨h2, rfl⟩ hk2⟩
              · exact .inl (by simpa using h2)
            clear hk0 hk3 hk2
            rcases b2 with b2 | ⟨b2, rfl⟩
            · go_wp2_with fail
              refine (nameRune_any base B _ _ hD1.out.1 (by omega) (by omega)).mono ?_
              rintro e w2 ⟨c, rfl, hc0, hc1, hDr⟩
              have hD2 := Lib.hid (hD1.out.trans hDr)
              have hz := encode_size_le c
              clear hDr hD1
              go_wp2
              go_roundw
              case rel => exact ⟨k + 1, _, by go_num, by omega, rfl, by simp; omega, hD2.out.mono (by omega)⟩
              case measure => simp [intOf]; omega
            · go_wp2_with fail
              refine (nameRune_any base B _ _ hD1.out.1 (by omega) (by omega)).mono ?_
              rintro e w2 ⟨c, rfl, hc0, hc1, hDr⟩
              have hD2 := Lib.hid (hD1.out.trans hDr)
              have hz := encode_size_le c
              clear hDr hD1
              go_wp2
              go_roundw
              case rel => exact ⟨k + 1, _, by go_num, by omega, rfl, by simp; omega, hD2.out.mono (by omega)⟩
              case measure => simp [intOf]; omega
    · obtain rfl : k = ts.length := by omega
      clear HT
      go_wp2_with fail
      refine (pick_any base B _ 8 _ hD.out.1 (by omega) (by omega)).mono ?_
      rintro e w2 ⟨x, rfl, hx0, hx1, hx2, hRd, hg⟩
      have hD2 := Lib.hid (hD.out.trans ⟨hRd, hg⟩)
      clear hRd hg hD hx1 hx2
      by_cases hx : x = 0
      · obtain rfl : x = 0 := hx
        go_wp2_with fail
        refine (nameRune_any base B _ _ hD2.out.1 (by omega) (by omega)).mono ?_
        rintro e w3 ⟨c, rfl, hc0, hc1, hDr⟩
        have hD3 := Lib.hid (hD2.out.trans hDr)
        have hz := encode_size_le c
        clear hDr hD2
        go_wp2
        go_ret
        exact ⟨_, rfl, by simp; omega, hD3.out.mono (by omega)⟩
      · by_cases hx1 : x = 1
        · obtain rfl : x = 1 := hx1
          clear hx
          go_wp2_with fail
          refine (nameRune_any base B _ _ hD2.out.1 (by omega) (by omega)).mono ?_
          rintro e w3 ⟨c, rfl, hc0, hc1, hDr⟩
          have hD3 := Lib.hid (hD2.out.trans hDr)
          have hz := encode_size_le c
          clear hDr hD2
          go_wp2
          go_ret
          exact ⟨_, rfl, by simp; omega, hD3.out.mono (by omega)⟩
        · by_cases hx2 : x = 2
          · obtain rfl : x = 2 := hx2
            clear hx hx1
            go_wp2_with fail
            refine (someText_any base B _ 6 _ hD2.out.1 (by omega) (by omega) (by omega)).mono ?_
            rintro e w3 ⟨u, rfl, hu, hDr⟩
            have hD3 := Lib.hid (hD2.out.trans hDr)
            clear hDr hD2
            go_wp2
            go_ret
            exact ⟨_, rfl, by omega, hD3.out.mono (by omega)⟩
          · have b0 : (x == 0) = false := by simpa using hx
            have b1 : (x == 1) = false := by simpa using hx1
            have b2 : (x == 2) = false := by simpa using hx2
            clear hx hx1 hx2
            go_wp2
            go_ret
            exact ⟨_, rfl, by omega, hD2.out.mono (by omega)⟩

end Go.Proofs.YtcoaoheakeodoaaDoor

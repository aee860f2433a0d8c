/-
  DrawThree, strings.Count at a slash: contracts. Conditions: none beyond those of each theorem.
-/
import Derived.Test.YtnjinkbhepimkaaDoorDrawN
import Derived.Test.YtnjinkbhepimkaaDoorLawF
namespace Go.Proofs.YtnjinkbhepimkaaDoor
open Go.ChangeShapes Go.WideShapes Go.ChangeAt Go.RowKit

set_option maxHeartbeats 2000000 in
theorem drawThree_any (a : Option Addr) (len cap : Nat) (zs : List Int) (w : World) (h : IsRow .u8 w a len cap zs) (hlen : len ≤ 1048576) :
    Calls Tryd.prog 30 #[.slice a len cap] w (ThreePost 1048576 w) := by
  have H0 := Lib.hid h
  clear h
  go_enter Tryd.func30, Tryd.ntmps30
  go_wp2_with fail
  refine (raw_any a len cap zs _ H0.out hlen).mono ?_
  rintro e w' ⟨b, rfl, hb, rfl⟩
  cases b with
  | true =>
    obtain ⟨x, rfl, hlc, ⟨hc1, hl1, hrow⟩ | ⟨hc1, hrow⟩⟩ := row1 H0.out (hb rfl)
    · have HR := Lib.hid hrow
      clear hb hrow
      obtain rfl : cap = 1 := hc1
      obtain rfl : len = 1 := hl1
      go_wp2_with fail
      refine (cut_any _ _ _ _ _ HR.out (by omega)).mono ?_
      rintro e w1 ⟨s, a2, len2, cap2, zs2, rfl, hrow2, hbl2, hsz, hg1⟩
      have HR2 := Lib.hid (hrow2.grown hg1 (fun _ _ _ e => by cases e))
      have HG1 := Lib.hid hg1
      have hl2 : len2 ≤ 1048576 := by omega
      have hss : s.size ≤ 1048576 := by omega
      clear hrow2 hbl2 hsz hg1
      go_wp2_with fail
      refine (cut_any _ _ _ _ _ HR2.out hl2).mono ?_
      rintro e w2 ⟨t, a3, len3, cap3, zs3, rfl, hrow3, hbl3, hsz3, hg2⟩
      obtain ⟨u, hcv, hpost⟩ := three_of_cut (n := 1048576) (w := w1) (s := s) (t := t) hss (by omega) hrow3 (by omega) hg2
      have HP : Hid (∀ q, ThreePost 1048576 w (.returned (.tuple #[.string s, .string t, .string u])) (w2.drewN q)) := Lib.hid (fun q => by
        obtain ⟨l1, l2, l3, e, h1, h2, h3, hb⟩ := hpost q
        exact ⟨l1, l2, l3, e, h1, h2, h3, ((Below.refl _ w).grown HG1.out (Nat.le_refl _) (fun _ e => by cases e)).trans (hb.mono HG1.out.size)⟩)
      clear hpost hrow3 hbl3 hsz3 hg2
      go_wp2_with fail
      go_quiet (fail)
      go_wp2
      go_ret3
      exact HP.out _
    · have h1 := hb rfl
      have HR := Lib.hid hrow
      clear hb hrow
      go_wp2_with fail
      refine (cut_any _ _ _ _ _ HR.out (by omega)).mono ?_
      rintro e w1 ⟨s, a2, len2, cap2, zs2, rfl, hrow2, hbl2, hsz, hg1⟩
      have HR2 := Lib.hid (hrow2.grown hg1 (fun _ _ _ e => by cases e))
      have HG1 := Lib.hid hg1
      have hl2 : len2 ≤ 1048576 := by omega
      have hss : s.size ≤ 1048576 := by omega
      clear hrow2 hbl2 hsz hg1
      go_wp2_with fail
      refine (cut_any _ _ _ _ _ HR2.out hl2).mono ?_
      rintro e w2 ⟨t, a3, len3, cap3, zs3, rfl, hrow3, hbl3, hsz3, hg2⟩
      obtain ⟨u, hcv, hpost⟩ := three_of_cut (n := 1048576) (w := w1) (s := s) (t := t) hss (by omega) hrow3 (by omega) hg2
      have HP : Hid (∀ q, ThreePost 1048576 w (.returned (.tuple #[.string s, .string t, .string u])) (w2.drewN q)) := Lib.hid (fun q => by
        obtain ⟨l1, l2, l3, e, h1, h2, h3, hb⟩ := hpost q
        exact ⟨l1, l2, l3, e, h1, h2, h3, ((Below.refl _ w).grown HG1.out (Nat.le_refl _) (fun _ e => by cases e)).trans (hb.mono HG1.out.size)⟩)
      clear hpost hrow3 hbl3 hsz3 hg2
      go_wp2_with fail
      go_quiet (fail)
      go_wp2
      go_ret3
      exact HP.out _
  | false =>
    clear hb
    have hR0 := Lib.hid (Rd.new w a len cap zs H0.out hlen)
    have hB0 := Lib.hid ((Below.refl w.heap.size w).alloc (Nat.le_refl _) (.cells #[.slice a len cap, .int .i64 0] 57))
    clear H0
    go_wp2_with fail
    refine (someText_any w.heap.size w.heap.size 0 3 _ hR0.out (by omega) (by omega) (by omega)).mono ?_
    rintro e w1 ⟨s, rfl, hs, hD⟩
    have hB1 := Lib.hid (hD.below hB0.out (Nat.le_refl _) (by simp))
    have hD1 := Lib.hid hD
    clear hD hB0 hR0
    go_wp2_with fail
    refine (someText_any w.heap.size w.heap.size _ 3 _ hD1.out.1 (by omega) (by omega) (by omega)).mono ?_
    rintro e w2 ⟨t, rfl, ht, hD⟩
    have hB2 := Lib.hid (hD.below hB1.out (Nat.le_refl _) hB1.out.size)
    have hD2 := Lib.hid hD
    clear hD hB1 hD1
    go_wp2_with fail
    refine (pick_any w.heap.size w.heap.size _ 4 _ hD2.out.1 (by omega) (by omega)).mono ?_
    rintro e w3 ⟨x, rfl, hx0, hx1, hx2, hRd, hg⟩
    have hX := hx1 (by omega)
    have hB3 := Lib.hid (Drew.below ⟨hRd, hg⟩ hB2.out (Nat.le_refl _) hB2.out.size)
    have hR3 := Lib.hid hRd
    clear hRd hg hD2 hB2 hx1 hx2
    have hx : x = 0 ∨ x = 1 ∨ x = 2 ∨ x = 3 := by omega
    clear hX hx0
    rcases hx with rfl | rfl | rfl | rfl
    · go_wp2_with fail
      refine (someText_any w.heap.size w.heap.size _ 6 _ hR3.out (by omega) (by omega) (by omega)).mono ?_
      rintro e w4 ⟨u, rfl, hu, hD⟩
      have HP := Lib.hid (ThreePost.mk (n := 1048576) s t u (by omega) (by omega) (by omega) (hD.below hB3.out (Nat.le_refl _) hB3.out.size))
      clear hD hB3 hR3
      go_wp2
      go_ret3
      exact HP.out
    · go_wp2_with fail
      refine (someText_any w.heap.size w.heap.size _ 3 _ hR3.out (by omega) (by omega) (by omega)).mono ?_
      rintro e w4 ⟨u, rfl, hu, hD⟩
      have HP := Lib.hid (ThreePost.mk (n := 1048576) s t (s ++ u ++ t) (by omega) (by omega) (by simp; omega) (hD.below hB3.out (Nat.le_refl _) hB3.out.size))
      clear hD hB3 hR3
      go_wp2
      go_ret3
      exact HP.out
    · go_wp2_with fail
      refine (noSlash_any w.heap.size w.heap.size _ 3 _ hR3.out (by omega) (by omega) (by omega)).mono ?_
      rintro e w4 ⟨u, rfl, hu, hD⟩
      have HP := Lib.hid (ThreePost.mk (n := 1048576) s t (s ++ u ++ t) (by omega) (by omega) (by simp; omega) (hD.below hB3.out (Nat.le_refl _) hB3.out.size))
      clear hD hB3 hR3
      go_wp2
      go_ret3
      exact HP.out
    · go_wp2_with fail
      refine (noSlash_any w.heap.size w.heap.size _ 3 _ hR3.out (by omega) (by omega) (by omega)).mono ?_
      rintro e w4 ⟨u, rfl, hu, hD⟩
      have HP := Lib.hid (ThreePost.mk (n := 1048576) s t (s ++ u ++ t) (by omega) (by omega) (by simp; omega) (hD.below hB3.out (Nat.le_refl _) hB3.out.size))
      clear hD hB3 hR3
      go_wp2
      go_ret3
      exact HP.out

theorem countB (p : Bs) (w : World) :
    Calls Tryd.prog 37 #[S p, .string ⟨#[47]⟩] w fun e w' => e = .returned (.int .i64 (p.count 47 : Nat)) ∧ Below w.heap.size w w' := by
  refine (Tryd.strings_Count_one _ 47 w).mono ?_
  rintro e w' ⟨rfl, rfl⟩
  exact ⟨rfl, Below.refl _ _⟩

end Go.Proofs.YtnjinkbhepimkaaDoor

/-
  DrawTexts, DrawThree: contracts. Conditions: none beyond those of each theorem.
-/
import Derived.Test.YtlfppmhkgfhecaaDoorDrawE
namespace Go.Proofs.YtlfppmhkgfhecaaDoor
open Go.ChangeShapes Go.WideShapes Go.ChangeAt Go.RowKit

/-- What lies behind the first byte of a code. -/
theorem row1 {w : World} {a : Option Addr} {len cap : Nat} {zs : List Int} (h : IsRow .u8 w a len cap zs) (h1 : 1 ≤ len) : ∃ x, a = some x ∧ len ≤ cap ∧
    ((cap = 1 ∧ len = 1 ∧ IsRow .u8 w (some x) 0 0 []) ∨ (cap ≠ 1 ∧ IsRow .u8 w (some ⟨x.block, x.off + 1, none⟩) (len - 1) (cap - 1) (zs.drop 1))) := by
  rcases h with ⟨_, rfl, _⟩ | ⟨x, rfl, hl, hm, hz, hc, hw⟩
  · omega
  · refine ⟨x, rfl, hl, ?_⟩
    have h : IsRow .u8 w (some x) len cap zs := .inr ⟨x, rfl, hl, hm, hz, hc, hw⟩
    by_cases hc1 : cap = 1
    · exact .inl ⟨hc1, by omega, IsRow.none_left⟩
    · exact .inr ⟨hc1, h.part' 1 (len - 1) (by omega) (by omega)⟩

def TwoPost (n : Nat) (w : World) (e : Ending) (w' : World) : Prop := ∃ a b : List UInt8, e = .returned (.tuple #[S a, S b]) ∧ a.length ≤ n ∧ b.length ≤ n ∧ Below w.heap.size w w'
theorem TwoPost.mk {n : Nat} {w w' : World} (s t : ByteArray) (hs : s.size ≤ n) (ht : t.size ≤ n) (hb : Below w.heap.size w w') : TwoPost n w (.returned (.tuple #[.string s, .string t])) w' := by
  obtain ⟨⟨l⟩⟩ := s
  obtain ⟨⟨k⟩⟩ := t
  exact ⟨l, k, rfl, hs, ht, hb⟩

/-- The two texts of raw bytes. -/
theorem two_of_cut {n : Nat} {w w1 : World} {a2 : Option Addr} {len len2 cap2 : Nat} {zs2 : List Int} {s : ByteArray} (hn : len ≤ n) (hrow : IsRow .u8 w a2 len2 cap2 zs2) (hsz : (len2 = 0 ∧ s.size = 0) ∨ s.size + len2 + 3 = len) (hl2 : len2 ≤ n) (hg : w.grownBy w1 none) :
    ∃ t : ByteArray, (∀ q, (convert 22 9 (.slice a2 len2 cap2)).run Tryd.prog (w1.drewN q) = .ok (.string t) (w1.drewN q)) ∧ ∀ q, TwoPost n w (.returned (.tuple #[.string s, .string t])) (w1.drewN q) := by
  obtain ⟨t, ht, hcv⟩ := conv_row (hrow.grown hg (fun _ _ _ e => by cases e))
  refine ⟨t, fun q => hcv _ (fun _ => rfl), fun q => TwoPost.mk s t (by omega) (by omega) (below_drewN ((Below.refl _ w).grown hg (Nat.le_refl _) (fun _ e => by cases e)) q)⟩

theorem drawTexts_any (a : Option Addr) (len cap : Nat) (zs : List Int) (w : World) (h : IsRow .u8 w a len cap zs) (hlen : len ≤ 1048576) :
    Calls Tryd.prog 30 #[.slice a len cap] w (TwoPost 1048576 w) := by
  have H0 := Lib.hid h
  clear h
  go_enter Tryd.func30, Tryd.ntmps30
  go_wp2_with fail
  refine (raw_any a len cap zs _ H0.out hlen).mono ?_
  rintro e w' ⟨b, rfl, hb, rfl⟩
  cases b with
  | true =>
    obtain ⟨x, rfl, hlc, ⟨hc1, hl1, hrow⟩ | ⟨hc1, hrow⟩⟩ := row1 H0.out (hb rfl)
    · have HR := Lib.hid hrow
      clear hb hrow
      obtain rfl : cap = 1 := hc1
      obtain rfl : len = 1 := hl1
      go_wp2_with fail
      refine (cut_any _ _ _ _ _ HR.out (by omega)).mono ?_
      rintro e w1 ⟨s, a2, len2, cap2, zs2, rfl, hrow2, hbl2, hsz, hg1⟩
      obtain ⟨t, hcv, hpost⟩ := two_of_cut (n := 1048576) (by omega) hrow2 hsz (by omega) hg1
      have HP := Lib.hid hpost
      clear hpost hrow2 hbl2 hsz hg1
      go_wp2_with fail
      go_quiet (fail)
      go_wp2
      go_ret2
      exact HP.out _
    · have h1 := hb rfl
      have HR := Lib.hid hrow
      clear hb hrow
      go_wp2_with fail
      refine (cut_any _ _ _ _ _ HR.out (by omega)).mono ?_
      rintro e w1 ⟨s, a2, len2, cap2, zs2, rfl, hrow2, hbl2, hsz, hg1⟩
      obtain ⟨t, hcv, hpost⟩ := two_of_cut (n := 1048576) (by omega) hrow2 hsz (by omega) hg1
      have HP := Lib.hid hpost
      clear hpost hrow2 hbl2 hsz hg1
      go_wp2_with fail
      go_quiet (fail)
      go_wp2
      go_ret2
      exact HP.out _
  | false =>
    clear hb
    have hR0 := Lib.hid (Rd.new w a len cap zs H0.out hlen)
    have hB0 := Lib.hid ((Below.refl w.heap.size w).alloc (Nat.le_refl _) (.cells #[.slice a len cap, .int .i64 0] 55))
    clear H0
    go_wp2_with fail
    refine (someText_any w.heap.size w.heap.size 0 5 _ hR0.out (by omega) (by omega) (by omega)).mono ?_
    rintro e w1 ⟨s, rfl, hs, hD⟩
    have hB1 := Lib.hid (hD.below hB0.out (Nat.le_refl _) (by simp))
    have hD1 := Lib.hid hD
    clear hD hB0 hR0
    go_wp2_with fail
    refine (pick_any w.heap.size w.heap.size _ 4 _ hD1.out.1 (by omega) (by omega)).mono ?_
    rintro e w2 ⟨x, rfl, hx0, hx1, hx2, hRd, hg⟩
    have hX := hx1 (by omega)
    have hB2 := Lib.hid (Drew.below ⟨hRd, hg⟩ hB1.out (Nat.le_refl _) hB1.out.size)
    have hR2 := Lib.hid hRd
    clear hRd hg hD1 hB1 hx1 hx2
    have hx : x = 0 ∨ x = 1 ∨ x = 2 ∨ x = 3 := by omega
    clear hX hx0
    rcases hx with rfl | rfl | rfl | rfl
    · go_wp2_with fail
      refine (someText_any w.heap.size w.heap.size _ 5 _ hR2.out (by omega) (by omega) (by omega)).mono ?_
      rintro e w3 ⟨t, rfl, ht, hD⟩
      have HP := Lib.hid (TwoPost.mk (n := 1048576) s t (by omega) (by omega) (hD.below hB2.out (Nat.le_refl _) hB2.out.size))
      clear hD hB2 hR2
      go_wp2
      go_ret2
      exact HP.out
    · go_wp2_with fail
      refine (someText_any w.heap.size w.heap.size _ 3 _ hR2.out (by omega) (by omega) (by omega)).mono ?_
      rintro e w3 ⟨t, rfl, ht, hD⟩
      have HP := Lib.hid (TwoPost.mk (n := 1048576) s (s ++ t) (by omega) (by simp; omega) (hD.below hB2.out (Nat.le_refl _) hB2.out.size))
      clear hD hB2 hR2
      go_wp2
      go_ret2
      exact HP.out
    · go_wp2_with fail
      refine (someText_any w.heap.size w.heap.size _ 3 _ hR2.out (by omega) (by omega) (by omega)).mono ?_
      rintro e w3 ⟨t, rfl, ht, hD⟩
      have HP := Lib.hid (TwoPost.mk (n := 1048576) s (t ++ s) (by omega) (by simp; omega) (hD.below hB2.out (Nat.le_refl _) hB2.out.size))
      clear hD hB2 hR2
      go_wp2
      go_ret2
      exact HP.out
    · have HP := Lib.hid (TwoPost.mk (n := 1048576) s s (by omega) (by omega) hB2.out)
      clear hB2 hR2
      go_wp2
      go_ret2
      exact HP.out

end Go.Proofs.YtlfppmhkgfhecaaDoor

/-
  DrawConcat: its contract. Conditions: none beyond those of each theorem.
-/
import Derived.Test.YtcoaoheakeodoaaDoorDrawM
namespace Go.Proofs.YtcoaoheakeodoaaDoor
open Go.ChangeShapes Go.WideShapes Go.ChangeAt Go.RowKit

def ThreePost (n : Nat) (w : World) (e : Ending) (w' : World) : Prop := ∃ a b c : List UInt8, e = .returned (.tuple #[S a, S b, S c]) ∧ a.length ≤ n ∧ b.length ≤ n ∧ c.length ≤ n ∧ Below w.heap.size w w'
theorem ThreePost.mk {n : Nat} {w w' : World} (s t u : ByteArray) (hs : s.size ≤ n) (ht : t.size ≤ n) (hu : u.size ≤ n) (hb : Below w.heap.size w w') : ThreePost n w (.returned (.tuple #[.string s, .string t, .string u])) w' := by
  obtain ⟨⟨l⟩⟩ := s
  obtain ⟨⟨k⟩⟩ := t
  obtain ⟨⟨m⟩⟩ := u
  exact ⟨l, k, m, rfl, hs, ht, hu, hb⟩

theorem GoodT.lt {lo : Nat} {w : World} {t : TV} (h : GoodT lo w t) : ∀ k, t.rv.ownBlock = some k → k < w.heap.size := by
  obtain ⟨rs, _, h2, _⟩ := h
  exact fun k hk => (h2 k hk).2

theorem tcells_append (a b : List TV) : tcells (a ++ b) = tcells a ++ tcells b := by simp [tcells]
theorem tcells_len (a : List TV) : (tcells a).length = a.length * 4 := by
  induction a with
  | nil => rfl
  | cons x a ih => simp [tcells, TV.cells] at ih ⊢; omega
theorem TermsAt.one {lo : Nat} {w : World} {v : Value} {ts : List TV} (h : TermsAt lo w v ts) : ∀ u ∈ tcells ts, u.oneCell' = true := by
  intro u hu
  obtain ⟨t, ht, hu⟩ := List.mem_flatMap.1 hu
  obtain ⟨a, n, c, e⟩ := (h.2 t ht).1.form
  unfold TV.cells at hu
  rw [e] at hu
  simp at hu
  rcases hu with rfl | rfl | rfl | rfl <;> rfl
theorem TermsAt.src {lo : Nat} {w : World} {v : Value} {ts : List TV} (h : TermsAt lo w v ts) {g n c : Nat} (hv : v = .slice (some ⟨g, 0, none⟩) n c) : ∀ (j : Nat) (u : Value), (tcells ts)[j]? = some u → w.cell? ((⟨g, 0, none⟩ : Addr).add j) = some u := fun j u hj => World.ownsRow.cells (g := g) h.1 (by rw [hv]; rfl) j u hj

/-- Terms that do not lie in a row that is written. -/
theorem goods_grown {lo : Nat} {w w' : World} {ts : List TV} {r : Option Nat} (h : ∀ t ∈ ts, GoodT lo w t) (hg : w.grownBy w' r) (hr : ∀ t ∈ ts, ∀ k, t.rv.ownBlock = some k → r ≠ some k) : ∀ t ∈ ts, GoodT lo w' t := fun t ht => (h t ht).grown hg (hr t ht)

theorem owns_low {w : World} {b b' : Nat} {e : TypeId} {sz : Nat} {v : Value} {n : Nat} {xs : List Value} (h : w.ownsRow b e sz v n xs) (hl : b' ≤ b) : w.ownsRow b' e sz v n xs := by
  obtain ⟨h0, h3 | ⟨g, cap, cur, e1, e2, rest⟩⟩ := h
  · exact ⟨h0, .inl h3⟩
  · exact ⟨h0, .inr ⟨g, cap, cur, e1, Nat.le_trans hl e2, rest⟩⟩

theorem three_of_cut {n : Nat} {w w1 : World} {a2 : Option Addr} {len2 cap2 : Nat} {zs2 : List Int} {s t : ByteArray} (hs : s.size ≤ n) (ht : t.size ≤ n) (hrow : IsRow .u8 w a2 len2 cap2 zs2) (hl2 : len2 ≤ n) (hg : w.grownBy w1 none) :
    ∃ u : ByteArray, (∀ q, (convert 22 9 (.slice a2 len2 cap2)).run Tryd.prog (w1.drewN q) = .ok (.string u) (w1.drewN q)) ∧ ∀ q, ThreePost n w (.returned (.tuple #[.string s, .string t, .string u])) (w1.drewN q) := by
  obtain ⟨u, hu, hcv⟩ := conv_row (hrow.grown hg (fun _ _ _ e => by cases e))
  refine ⟨u, fun q => hcv _ (fun _ => rfl), fun q => ThreePost.mk s t u hs ht (by omega) (below_drewN ((Below.refl _ w).grown hg (Nat.le_refl _) (fun _ e => by cases e)) q)⟩

set_option maxHeartbeats 2000000 in
theorem drawConcat_any (a : Option Addr) (len cap : Nat) (zs : List Int) (w : World) (h : IsRow .u8 w a len cap zs) (hlen : len ≤ 1048576) :
    Calls Tryd.prog 6 #[.slice a len cap] w (ThreePost 1048576 w) := by
  obtain ⟨i0, hi, hz0, hz1, hz2⟩ := info_parts infoT
  have H0 := Lib.hid h
  clear h
  go_enter Tryd.func6, Tryd.ntmps6
  go_wp2_with fail
  refine (raw_any a len cap zs _ H0.out hlen).mono ?_
  rintro e w' ⟨b, rfl, hb, rfl⟩
  cases b with
  | true =>
    obtain ⟨x, rfl, hlc, ⟨hc1, hl1, hrow⟩ | ⟨hc1, hrow⟩⟩ := row1 H0.out (hb rfl)
    · have HR := Lib.hid hrow
      clear hb hrow
      obtain rfl : cap = 1 := hc1
      obtain rfl : len = 1 := hl1
      go_wp2_with fail
      refine (cut_any _ _ _ _ _ HR.out (by omega)).mono ?_
      rintro e w1 ⟨s, a2, len2, cap2, zs2, rfl, hrow2, hbl2, hsz, hg1⟩
      have HR2 := Lib.hid (hrow2.grown hg1 (fun _ _ _ e => by cases e))
      have HG1 := Lib.hid hg1
      have hl2 : len2 ≤ 1048576 := by omega
      have hss : s.size ≤ 1048576 := by omega
      clear hrow2 hbl2 hsz hg1
      go_wp2_with fail
      refine (cut_any _ _ _ _ _ HR2.out hl2).mono ?_
      rintro e w2 ⟨t, a3, len3, cap3, zs3, rfl, hrow3, hbl3, hsz3, hg2⟩
      obtain ⟨u, hcv, hpost⟩ := three_of_cut (n := 1048576) (w := w1) (s := s) (t := t) hss (by omega) hrow3 (by omega) hg2
      have HP : Hid (∀ q, ThreePost 1048576 w (.returned (.tuple #[.string s, .string t, .string u])) (w2.drewN q)) := Lib.hid (fun q => by
        obtain ⟨l1, l2, l3, e, h1, h2, h3, hb⟩ := hpost q
        exact ⟨l1, l2, l3, e, h1, h2, h3, ((Below.refl _ w).grown HG1.out (Nat.le_refl _) (fun _ e => by cases e)).trans (hb.mono HG1.out.size)⟩)
      clear hpost hrow3 hbl3 hsz3 hg2
      go_wp2_with fail
      go_quiet (fail)
      go_wp2
      go_ret3
      exact HP.out _
    · have h1 := hb rfl
      have HR := Lib.hid hrow
      clear hb hrow
      go_wp2_with fail
      refine (cut_any _ _ _ _ _ HR.out (by omega)).mono ?_
      rintro e w1 ⟨s, a2, len2, cap2, zs2, rfl, hrow2, hbl2, hsz, hg1⟩
      have HR2 := Lib.hid (hrow2.grown hg1 (fun _ _ _ e => by cases e))
      have HG1 := Lib.hid hg1
      have hl2 : len2 ≤ 1048576 := by omega
      have hss : s.size ≤ 1048576 := by omega
      clear hrow2 hbl2 hsz hg1
      go_wp2_with fail
      refine (cut_any _ _ _ _ _ HR2.out hl2).mono ?_
      rintro e w2 ⟨t, a3, len3, cap3, zs3, rfl, hrow3, hbl3, hsz3, hg2⟩
      obtain ⟨u, hcv, hpost⟩ := three_of_cut (n := 1048576) (w := w1) (s := s) (t := t) hss (by omega) hrow3 (by omega) hg2
      have HP : Hid (∀ q, ThreePost 1048576 w (.returned (.tuple #[.string s, .string t, .string u])) (w2.drewN q)) := Lib.hid (fun q => by
        obtain ⟨l1, l2, l3, e, h1, h2, h3, hb⟩ := hpost q
        exact ⟨l1, l2, l3, e, h1, h2, h3, ((Below.refl _ w).grown HG1.out (Nat.le_refl _) (fun _ e => by cases e)).trans (hb.mono HG1.out.size)⟩)
      clear hpost hrow3 hbl3 hsz3 hg2
      go_wp2_with fail
      go_quiet (fail)
      go_wp2
      go_ret3
      exact HP.out _
  | false =>
    clear hb
    have hR0 := Lib.hid (Rd.new w a len cap zs H0.out hlen)
    have hB0 := Lib.hid ((Below.refl w.heap.size w).alloc (Nat.le_refl _) (.cells #[.slice a len cap, .int .i64 0] 49))
    clear H0
    go_wp2_with fail
    refine (someTerms_any w.heap.size w.heap.size 0 3 _ hR0.out (by omega) (by omega) (by omega)).mono ?_
    rintro e w1 ⟨va, xs, rfl, hTa, hna, hxl, hD⟩
    have hsz1 : (w.alloc (.cells #[.slice a len cap, .int .i64 0] 49)).heap.size = w.heap.size + 1 := by simp
    rw [hsz1] at hTa
    obtain ⟨ga, ca, hva, hal, ham⟩ : ∃ g c, va = .slice (some ⟨g, 0, none⟩) xs.length c ∧ xs.length ≤ c ∧ c ≤ maxLen := by
      have h1 := hTa.1
      obtain ⟨_, h3 | ⟨g, cap, cur, e1, e2, e3, e4, e5, e6, e7⟩⟩ := h1
      · exact absurd h3.1 hna
      · exact ⟨g, cap, e1, e4, e5⟩
    subst hva
    have hB1 := Lib.hid (hD.below hB0.out (Nat.le_refl _) (by simp))
    have hTa1 := Lib.hid hTa
    have hR1 := Lib.hid hD.1
    clear hD hB0 hR0 hTa hna hsz1
    go_wp2_with fail
    refine (someTerms_any w.heap.size w.heap.size _ 3 _ hR1.out (by omega) (by omega) (by omega)).mono ?_
    rintro e w2 ⟨vb, ys, rfl, hTb, hnb, hyl, hD⟩
    obtain ⟨gb, cb, hvb, hbl, hbm⟩ : ∃ g c, vb = .slice (some ⟨g, 0, none⟩) ys.length c ∧ ys.length ≤ c ∧ c ≤ maxLen := by
      have h1 := hTb.1
      obtain ⟨_, h3 | ⟨g, cap, cur, e1, e2, e3, e4, e5, e6, e7⟩⟩ := h1
      · exact absurd h3.1 hnb
      · exact ⟨g, cap, e1, e4, e5⟩
    subst hvb
    have hs1 : w.heap.size + 1 ≤ w1.heap.size := by have := hR1.out.lt; omega
    have hB2 := Lib.hid (hD.below hB1.out (Nat.le_refl _) hB1.out.size)
    have hTa2 := Lib.hid (hTa1.out.kept hD.2 (fun k e => by injection e with e; omega))
    have hTb2 := Lib.hid hTb
    have hR2 := Lib.hid hD.1
    have hs2 : w1.heap.size ≤ w2.heap.size := hD.2.size
    clear hD hB1 hTa1 hR1 hTb hnb
    unfold maxLen at ham hbm
    -- the first append: all of a behind nothing
    have HNA := Lib.hid (((hTa2.out.kept (World.grownBy_alloc w2 (.cells #[] 33) none) (fun _ e => by cases e))).src rfl)
    go_wp2_with (at_builtin; refine wpList_append_own _ rfl _ _ 27 rfl w2.heap.size 33 i0 (.agg #[.int .i64 0, .int .i32 0, .bool false, .slice none 0 0]) 4 40 Tryd.underlying27 hi hz0 hz1 hz2 rfl (by decide) _ 0 [] rfl (World.ownsRow_made w2 #[] 0 (Nat.le_refl _) (by unfold maxLen; omega) rfl) ⟨ga, 0, none⟩ xs.length ca (tcells xs) rfl ?c1 ?c2 ?c3 ?c4 ?c5 ?c6 ?_)
    case c1 => exact tcells_len xs
    case c2 => exact HNA.out
    case c3 => exact hTa2.out.one
    case c4 => unfold maxLen; omega
    case c5 => omega
    case c6 => simp
    · intro v1 w3 hown1 hgrow1 hnn1
      try simp only [Nat.zero_add, List.nil_append] at hown1
      have hG3 : w2.grownBy w3 none := grownBy_more (World.grownBy_alloc w2 _ none) hgrow1 (fun j (e : some w2.heap.size = some j) => by injection e with e; omega)
      have HO1 := Lib.hid hown1
      have HTa3 := Lib.hid (hTa2.out.kept hG3 (fun _ e => by cases e))
      have HTb3 := Lib.hid (hTb2.out.kept hG3 (fun _ e => by cases e))
      have hR3 := Lib.hid (hR2.out.grown hG3 (fun _ e => by cases e))
      have HG3 := Lib.hid hG3
      have HNB := Lib.hid (HTb3.out.src rfl)
      clear hown1 hgrow1 hnn1 hG3 HNA
      go_wp2_with (at_builtin; refine wpList_append_own _ rfl _ _ 27 rfl w2.heap.size 33 i0 (.agg #[.int .i64 0, .int .i32 0, .bool false, .slice none 0 0]) 4 40 Tryd.underlying27 hi hz0 hz1 hz2 rfl (by decide) _ xs.length (tcells xs) rfl HO1.out ⟨gb, 0, none⟩ ys.length cb (tcells ys) rfl ?d1 ?d2 ?d3 ?d4 ?d5 ?d6 ?_)
      case d1 => exact tcells_len ys
      case d2 => exact HNB.out
      case d3 => exact HTb3.out.one
      case d4 => unfold maxLen; omega
      case d5 => omega
      case d6 => exact HG3.out.size
      · intro v2 w4 hown2 hgrow2 hnn2
        have hG4 : w2.grownBy w4 none := grownBy_more HG3.out hgrow2 (fun j e => (HO1.out.lt j e).1)
        have hT4 : TermsAt (w.heap.size + 1) w4 v2 (xs ++ ys) := by
          refine ⟨?_, fun t ht => ?_⟩
          · rw [tcells_append, List.length_append]
            exact owns_low hown2 (by omega)
          · have key : GoodT (w.heap.size + 1) w2 t := by
              rcases List.mem_append.1 ht with ht | ht
              · exact (hTa2.out.2 t ht).1
              · exact (hTb2.out.2 t ht).1.low (by omega)
            refine ⟨key.grown hG4 (fun _ _ e => by cases e), fun k hk e => ?_⟩
            have h1 := key.lt k hk
            have h2 := (hown2.lt k e).1
            omega
        have HT4 := Lib.hid hT4
        have HTa4 := Lib.hid (hTa2.out.kept hG4 (fun _ e => by cases e))
        have HTb4 := Lib.hid ((hTb2.out.kept hG4 (fun _ e => by cases e)))
        have hR4 := Lib.hid (hR2.out.grown hG4 (fun _ e => by cases e))
        have hB4 := Lib.hid (hB2.out.grown hG4 hB2.out.size (fun _ e => by cases e))
        have hs4 : w2.heap.size ≤ w4.heap.size := hG4.size
        clear hown2 hgrow2 hnn2 hG4 hT4 HO1 HTa3 HTb3 hR3 HG3 HNB hTa2 hTb2 hR2 hB2
        go_wp2_with fail
        refine (nameFor_any w.heap.size w.heap.size _ _ _ (xs ++ ys) _ hR4.out HT4.out (by omega) (by simp; omega) (by omega) (by omega)).mono ?_
        rintro e w5 ⟨n, rfl, hn, hD⟩
        rw [List.length_append] at hn
        have hB5 := Lib.hid (hD.below hB4.out (Nat.le_refl _) hB4.out.size)
        have HTa5 := Lib.hid (HTa4.out.kept hD.2 (fun k e => by injection e with e; omega))
        have HTb5 := Lib.hid (HTb4.out.kept hD.2 (fun k e => by injection e with e; omega))
        have hR5 := Lib.hid (hD.1.mono (m' := 200) (by rw [List.length_append]; omega))
        clear hD hB4 HTa4 HTb4 HT4 hR4
        go_wp2_with fail
        refine (writeDrawn w.heap.size w.heap.size _ _ _ ys _ hR5.out HTb5.out (by omega)).mono ?_
        rintro e w6 ⟨q, rfl, hq, hRd, hb⟩
        have hB6 := Lib.hid (hB5.out.trans (hb.mono hB5.out.size))
        have HTa6 := Lib.hid (HTa5.out.kept (Below.gr hb none) (fun _ e => by cases e))
        have hR6 := Lib.hid hRd
        clear hRd hb hB5 hR5 HTb5 HTa5
        go_wp2_with fail
        refine (pick_any w.heap.size w.heap.size _ 4 _ hR6.out (by omega) (by omega)).mono ?_
        rintro e w7 ⟨x, rfl, hx0, hx1, hx2, hRd, hg⟩
        have hB7 := Lib.hid (Drew.below ⟨hRd, hg⟩ hB6.out (Nat.le_refl _) hB6.out.size)
        have HTa7 := Lib.hid (HTa6.out.kept hg (fun k e => by injection e with e; omega))
        have hR7 := Lib.hid hRd
        clear hRd hg hB6 HTa6 hR6 hx1 hx2
        by_cases hx : x = 0
        · obtain rfl : x = 0 := hx
          go_wp2_with fail
          refine (spoil_any w.heap.size w.heap.size _ q _ hR7.out (by omega) (by omega) (by omega)).mono ?_
          rintro e w8 ⟨t, rfl, ht, hD⟩
          have hB8 := Lib.hid (hD.below hB7.out (Nat.le_refl _) hB7.out.size)
          have HTa8 := Lib.hid (HTa7.out.kept hD.2 (fun k e => by injection e with e; omega))
          have hR8 := Lib.hid hD.1
          clear hD hB7 HTa7 hR7
          go_wp2_with fail
          refine (writeDrawn w.heap.size w.heap.size _ _ _ xs _ hR8.out HTa8.out (by omega)).mono ?_
          rintro e w9 ⟨p, rfl, hp, hRd, hb⟩
          have HP := Lib.hid (ThreePost.mk (n := 1048576) ⟨p.toArray⟩ t n (by show p.length ≤ _; omega) (by omega) (by omega) (hB8.out.trans (hb.mono hB8.out.size)))
          clear hRd hb hB8 hR8 HTa8
          go_wp2
          go_ret3
          exact HP.out
        · have hxb : (x == 0) = false := by simpa using hx
          clear hx
          go_wp2_with fail
          refine (writeDrawn w.heap.size w.heap.size _ _ _ xs _ hR7.out HTa7.out (by omega)).mono ?_
          rintro e w9 ⟨p, rfl, hp, hRd, hb⟩
          have HP := Lib.hid (ThreePost.mk (n := 1048576) ⟨p.toArray⟩ ⟨q.toArray⟩ n (by show p.length ≤ _; omega) (by show q.length ≤ _; omega) (by omega) (hB7.out.trans (hb.mono hB7.out.size)))
          clear hRd hb hB7 hR7 HTa7
          go_wp2
          go_ret3
          exact HP.out

end Go.Proofs.YtcoaoheakeodoaaDoor

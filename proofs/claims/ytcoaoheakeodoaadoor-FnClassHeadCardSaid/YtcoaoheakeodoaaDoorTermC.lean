/-
  Lists of terms in memory; someTerms: its contract. Conditions: none beyond those of each theorem.
-/
import Derived.Test.YtcoaoheakeodoaaDoorTermB
namespace Go.Proofs.YtcoaoheakeodoaaDoor
open Go.ChangeShapes Go.WideShapes Go.ChangeAt Go.RowKit

def tcells (ts : List TV) : List Value := ts.flatMap TV.cells
theorem tcells_snoc (ts : List TV) (t : TV) : tcells (ts ++ [t]) = tcells ts ++ t.cells := by simp [tcells]
theorem tcells_at : ∀ (ts : List TV) (j : Nat) (t : TV), ts[j]? = some t → (tcells ts)[4 * j]? = some (.int .i64 t.kind) ∧ (tcells ts)[4 * j + 1]? = some (.int .i32 t.chr) ∧ (tcells ts)[4 * j + 2]? = some (.bool t.neg) ∧ (tcells ts)[4 * j + 3]? = some t.rv
  | [], j, r, h => by simp at h
  | x :: rs, 0, r, h => by
    simp at h
    subst h
    exact ⟨rfl, rfl, rfl, rfl⟩
  | x :: rs, j + 1, r, h => by
    have := tcells_at rs j r (by simpa using h)
    have e : tcells (x :: rs) = .int .i64 x.kind :: .int .i32 x.chr :: .bool x.neg :: x.rv :: tcells rs := rfl
    rw [e]
    have e1 : 4 * (j + 1) = 4 * j + 1 + 1 + 1 + 1 := by omega
    rw [e1]
    simpa using this

theorem infoT : (Tryd.prog.info? 33).map (fun i => (i.zero, i.size, i.bytes)) = some (some (.agg #[.int .i64 0, .int .i32 0, .bool false, .slice none 0 0]), 4, 40) := by kernel_rfl

/-- Terms of the call's own: the row, and each term's ranges elsewhere. -/
def TermsAt (lo : Nat) (w : World) (v : Value) (ts : List TV) : Prop :=
  w.ownsRow lo 33 4 v ts.length (tcells ts) ∧ ∀ t ∈ ts, GoodT lo w t ∧ ∀ k, t.rv.ownBlock = some k → v.ownBlock ≠ some k

theorem TermsAt.kept {lo : Nat} {w w' : World} {v : Value} {ts : List TV} {r : Option Nat} (h : TermsAt lo w v ts) (hg : w.grownBy w' r) (hr : ∀ k, r = some k → k < lo) : TermsAt lo w' v ts := by
  refine ⟨World.ownsRow.kept h.1 hg ?_, fun t ht => ⟨(h.2 t ht).1.grown hg (fun k hk e => ?_), (h.2 t ht).2⟩⟩
  · cases hv : v.ownBlock with
    | none => exact .inl rfl
    | some k =>
      refine .inr (fun e => ?_)
      have := (h.1.lt k hv).1
      have := hr k e.symm
      omega
  · obtain ⟨rs, _, h2, _⟩ := (h.2 t ht).1
    have := (h2 k hk).1
    have := hr k e
    omega

theorem four_cells (w : World) (a b c d : Value) (t : TypeId) : ∀ (j : Nat) (u : Value), [a, b, c, d][j]? = some u → (w.alloc (.cells #[a, b, c, d] t)).cell? ((⟨w.heap.size, 0, none⟩ : Addr).add j) = some u := by
  intro j u hj
  match j, hj with
  | 0, hj => simp at hj; subst hj; simp [Addr.add]
  | 1, hj => simp at hj; subst hj; simp [Addr.add]
  | 2, hj => simp at hj; subst hj; simp [Addr.add]
  | 3, hj => simp at hj; subst hj; simp [Addr.add]
  | j + 4, hj => simp at hj

/-- A term more. -/
theorem TermsAt.snoc {lo : Nat} {w w' : World} {v : Value} {ts : List TV} {t : TV} {o : Obj} {g cap : Nat} (h : TermsAt lo w v ts) (ht : GoodT lo w t) (hd : ∀ k, t.rv.ownBlock = some k → v.ownBlock ≠ some k)
    (hown : w'.ownsRow lo 33 4 (.slice (some ⟨g, 0, none⟩) (ts.length + 1) cap) (ts.length + 1) (tcells ts ++ t.cells)) (hg : (w.alloc o).grownBy w' v.ownBlock) (hat : v.ownBlock = some g ∨ g = w.heap.size + 1) :
    TermsAt lo w' (.slice (some ⟨g, 0, none⟩) (ts.length + 1) cap) (ts ++ [t]) := by
  have key : ∀ x : TV, GoodT lo w x → (∀ k, x.rv.ownBlock = some k → v.ownBlock ≠ some k) → GoodT lo w' x ∧ ∀ k, x.rv.ownBlock = some k → (Value.slice (some ⟨g, 0, none⟩) (ts.length + 1) cap).ownBlock ≠ some k := by
    intro x hx hxd
    refine ⟨(hx.grown (World.grownBy_alloc w o none) (fun k _ e => by cases e)).grown hg (fun k hk => hxd k hk), fun k hk e => ?_⟩
    have e' : g = k := by injection e
    obtain ⟨rs, _, h2, _⟩ := hx
    have hlt := (h2 k hk).2
    rcases hat with h | h
    · exact hxd k hk (by rw [h, e'])
    · omega
  refine ⟨by rw [tcells_snoc, List.length_append]; exact hown, fun x hx => ?_⟩
  rcases List.mem_append.1 hx with hx | hx
  · exact key x (h.2 x hx).1 (h.2 x hx).2
  · obtain rfl := List.mem_singleton.1 hx
    exact key _ ht hd

theorem GoodT.form {lo : Nat} {w : World} {t : TV} (h : GoodT lo w t) : (∃ a n c, t.rv = .slice a n c) := by
  obtain ⟨rs, h1, _⟩ := h
  rcases h1 with ⟨e, _⟩ | ⟨g, cap, e, _⟩
  · exact ⟨_, _, _, e⟩
  · exact ⟨_, _, _, e⟩
theorem GoodT.low {lo lo' : Nat} {w : World} {t : TV} (h : GoodT lo w t) (hl : lo' ≤ lo) : GoodT lo' w t := by
  obtain ⟨rs, h1, h2, h3, h4⟩ := h
  exact ⟨rs, h1, fun k hk => ⟨Nat.le_trans hl (h2 k hk).1, (h2 k hk).2⟩, h3, h4⟩

def TermsPost (base B : Nat) (m : Int) (n : Nat) (w : World) (e : Ending) (w' : World) : Prop := ∃ v ts, e = .returned v ∧ TermsAt w.heap.size w' v ts ∧ v ≠ .slice none 0 0 ∧ ts.length ≤ n ∧ Drew base B (m + 1 + 13 * n) w w'
def TermsRel (base B : Nat) (m : Int) (n : Nat) (w : World) (out v : Value) (wr : World) : Prop :=
  ∃ (k : Nat) (ts : List TV), v = .int .i64 k ∧ k ≤ n ∧ TermsAt w.heap.size wr out ts ∧ out ≠ .slice none 0 0 ∧ ts.length + k ≤ n ∧ Drew base B (m + 1 + 13 * (n - k)) w wr

theorem someTerms_any (base B : Nat) (m : Int) (n : Nat) (w : World) (h : Rd base w B m) (h0 : 0 ≤ m) (hm : m ≤ 600000) (hn : n ≤ 100) :
    Calls Tryd.prog 21 #[.pointer (some ⟨B, 0, none⟩), .int .i64 n] w (TermsPost base B m n w) := by
  obtain ⟨i0, hi, hz0, hz1, hz2⟩ := info_parts infoT
  have hR0 := Lib.hid (h.grown (World.grownBy_alloc w (.cells #[] 33) none) (fun k e => by cases e))
  have hlt := h.lt
  clear h
  go_enter Tryd.func21, Tryd.ntmps21
  go_wp2_with fail
  refine (pick_any base B m (n + 1) _ hR0.out (by omega) (by omega)).mono ?_
  rintro e w1 ⟨x, rfl, hx0, hx1, hx2, hRd, hg⟩
  have hX := hx1 (by omega)
  have hD : Hid (Drew base B (m + 1) w w1) := ⟨hRd, (World.grownBy_alloc w (.cells #[] 33) (some B)).trans hg⟩
  have hO : Hid (TermsAt w.heap.size w1 (.slice (some ⟨w.heap.size, 0, none⟩) 0 0) []) := ⟨World.ownsRow.kept (World.ownsRow_made w #[] 0 (Nat.le_refl _) (by unfold maxLen; omega) rfl) hg (.inr (by show some w.heap.size ≠ some B; intro e; injection e with e; omega)), fun t ht => by cases ht⟩
  clear hRd hg hR0 hx1 hx2
  obtain ⟨k, rfl⟩ := Int.eq_ofNat_of_zero_le hx0
  go_wp2
  go_loopw [5, 6] (fun o v wr => TermsRel base B m n w o v wr) (fun _ v _ => (intOf v).toNat)
  case atStart => exact ⟨k, [], rfl, by omega, hO.out, by simp, by simp; omega, hD.out.mono (by omega)⟩
  case round =>
    clear hD hO hX hx0
    obtain ⟨k, ts, rfl, hk, hown, hnn, hl1, hDr⟩ := hrel
    have hD := Lib.hid hDr
    have hO := Lib.hid hown
    have hne : Hid (∀ j, u5.ownBlock = some j → w.heap.size ≤ j ∧ j < wr.heap.size) := fun j hj => hown.1.lt j hj
    have hNN := Lib.hid hnn
    clear hDr hown hnn
    by_cases hk0 : 0 < k
    · go_wp2_with fail
      refine (someTerm_any base B _ _ hD.out.1 (by omega) (by omega)).mono ?_
      rintro e w2 ⟨t, rfl, hgt, hDr⟩
      have hsz := hD.out.2.size
      have hO2 := Lib.hid (hO.out.kept hDr.2 (fun j e => by injection e with e; omega))
      have hT2 := Lib.hid (hgt.low (lo' := w.heap.size) hsz)
      have hdis : Hid (∀ j, t.rv.ownBlock = some j → u5.ownBlock ≠ some j) := fun j hj e => by
        obtain ⟨_, _, h2, _⟩ := hgt
        have := (h2 j hj).1
        have := (hne.out j e).2
        omega
      have hs2 := hDr.2.size
      have hD2 := Lib.hid (hD.out.trans hDr)
      clear hDr hD hO hgt
      obtain ⟨ra, rn, rc, hrv⟩ := hT2.out.form
      obtain ⟨tk, tc, tn, trv⟩ := t
      obtain rfl : trv = .slice ra rn rc := hrv
      go_wp2_with (at_builtin; refine wpList_append_lies _ rfl _ _ 27 rfl w.heap.size 33 i0 (.agg #[.int .i64 0, .int .i32 0, .bool false, .slice none 0 0]) 4 40 Tryd.underlying27 hi hz0 hz1 hz2 rfl (by decide) _ _ _ rfl (hO2.out.1.alloc _) ⟨w2.heap.size, 0, none⟩ 1 1 [.int .i64 tk, .int .i32 tc, .bool tn, .slice ra rn rc] rfl rfl ?c1 ?c2 (by decide) ?c3 ?c4 ?c5 (w2.heap.size + 1) ?c6 ?_)
      case c1 => exact four_cells _ _ _ _ _ _
      case c2 => intro u hu; simp at hu; rcases hu with rfl | rfl | rfl | rfl <;> rfl
      case c3 => unfold maxLen; omega
      case c4 => omega
      case c5 => simp; omega
      case c6 => simp
      · intro g cap w4 hown' hgrow hat hlt4
        have hO4 := Lib.hid (hO2.out.snoc (t := ⟨tk, tc, tn, .slice ra rn rc⟩) hT2.out hdis.out hown' hgrow hat)
        have hD4 := Lib.hid ((hD2.out.more (World.grownBy_alloc w2 (.cells #[.int .i64 tk, .int .i32 tc, .bool tn, .slice ra rn rc] 33) none) hlt (fun _ e => by cases e)).more hgrow hlt (fun j e => (hne.out j e).1))
        clear hown' hgrow hat hlt4
        go_wp2
        go_roundw
        case rel => exact ⟨k - 1, ts ++ [⟨tk, tc, tn, .slice ra rn rc⟩], by go_num, by omega, hO4.out, by simp, by simp; omega, hD4.out.mono (by omega)⟩
        case measure => simp [intOf]; omega
    · obtain rfl : k = 0 := by omega
      go_wp2
      go_ret
      exact ⟨_, ts, rfl, hO.out, hNN.out, by omega, hD.out.mono (by omega)⟩

end Go.Proofs.YtcoaoheakeodoaaDoor

/-
  DrawConcat: its contract. Conditions: none beyond those of each theorem.
-/
import Derived.Test.YtlekeaganaliiaaDoorDrawM
namespace Go.Proofs.YtlekeaganaliiaaDoor
open Go.ChangeShapes Go.WideShapes Go.ChangeAt Go.RowKit

def ThreePost (n : Nat) (w : World) (e : Ending) (w' : World) : Prop := ∃ a b c : List UInt8, e = .returned (.tuple #[S a, S b, S c]) ∧ a.length ≤ n ∧ b.length ≤ n ∧ c.length ≤ n ∧ Below w.heap.size w w'
theorem ThreePost.mk {n : Nat} {w w' : World} (s t u : ByteArray) (hs : s.size ≤ n) (ht : t.size ≤ n) (hu : u.size ≤ n) (hb : Below w.heap.size w w') : ThreePost n w (.returned (.tuple #[.string s, .string t, .string u])) w' := by
  obtain ⟨⟨l⟩⟩ := s
  obtain ⟨⟨k⟩⟩ := t
  obtain ⟨⟨m⟩⟩ := u
  exact ⟨l, k, m, rfl, hs, ht, hu, hb⟩

theorem GoodT.lt {lo : Nat} {w : World} {t : TV} (h : GoodT lo w t) : ∀ k, t.rv.ownBlock = some k → k < w.heap.size := by
  obtain ⟨rs, _, h2, _⟩ := h
  exact fun k hk => (h2 k hk).2

theorem tcells_append (a b : List TV) : tcells (a ++ b) = tcells a ++ tcells b := by simp [tcells]
theorem tcells_len (a : List TV) : (tcells a).length = a.length * 4 := by
  induction a with
  | nil => rfl
  | cons x a ih => simp [tcells, TV.cells] at ih ⊢; omega
theorem TermsAt.one {lo : Nat} {w : World} {v : Value} {ts : List TV} (h : TermsAt lo w v ts) : ∀ u ∈ tcells ts, u.oneCell' = true := by
  intro u hu
  obtain ⟨t, ht, hu⟩ := List.mem_flatMap.1 hu
  obtain ⟨a, n, c, e⟩ := (h.2 t ht).1.form
  unfold TV.cells at hu
  rw [e] at hu
  simp at hu
  rcases hu with rfl | rfl | rfl | rfl <;> rfl
theorem TermsAt.src {lo : Nat} {w : World} {v : Value} {ts : List TV} (h : TermsAt lo w v ts) {g n c : Nat} (hv : v = .slice (some ⟨g, 0, none⟩) n c) : ∀ (j : Nat) (u : Value), (tcells ts)[j]? = some u → w.cell? ((⟨g, 0, none⟩ : Addr).add j) = some u := fun j u hj => World.ownsRow.cells (g := g) h.1 (by rw [hv]; rfl) j u hj

/-- Terms that do not lie in a row that is written. -/
theorem goods_grown {lo : Nat} {w w' : World} {ts : List TV} {r : Option Nat} (h : ∀ t ∈ ts, GoodT lo w t) (hg : w.grownBy w' r) (hr : ∀ t ∈ ts, ∀ k, t.rv.ownBlock = some k → r ≠ some k) : ∀ t ∈ ts, GoodT lo w' t := fun t ht => (h t ht).grown hg (hr t ht)

theorem owns_low {w : World} {b b' : Nat} {e : TypeId} {sz : Nat} {v : Value} {n : Nat} {xs : List Value} (h : w.ownsRow b e sz v n xs) (hl : b' ≤ b) : w.ownsRow b' e sz v n xs := by
  obtain ⟨h0, h3 | ⟨g, cap, cur, e1, e2, rest⟩⟩ := h
  · exact ⟨h0, .inl h3⟩
  · exact ⟨h0, .inr ⟨g, cap, cur, e1, Nat.le_trans hl e2, rest⟩⟩

theorem three_of_cut {n : Nat} {w w1 : World} {a2 : Option Addr} {len2 cap2 : Nat} {zs2 : List Int} {s t : ByteArray} (hs : s.size ≤ n) (ht : t.size ≤ n) (hrow : IsRow .u8 w a2 len2 cap2 zs2) (hl2 : len2 ≤ n) (hg : w.grownBy w1 none) :
    ∃ u : ByteArray, (∀ q, (convert 25 9 (.slice a2 len2 cap2)).run Tryd.prog (w1.drewN q) = .ok (.string u) (w1.drewN q)) ∧ ∀ q, ThreePost n w (.returned (.tuple #[.string s, .string t, .string u])) (w1.drewN q) := by
  obtain ⟨u, hu, hcv⟩ := conv_row (hrow.grown hg (fun _ _ _ e => by cases e))
  refine ⟨u, fun q => hcv _ (fun _ => rfl), fun q => ThreePost.mk s t u hs ht (by omega) (below_drewN ((Below.refl _ w).grown hg (Nat.le_refl _) (fun _ e => by cases e)) q)⟩


end Go.Proofs.YtlekeaganaliiaaDoor

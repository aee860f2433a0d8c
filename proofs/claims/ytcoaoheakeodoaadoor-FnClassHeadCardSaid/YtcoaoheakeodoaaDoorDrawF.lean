/-
  DrawTexts, DrawThree: contracts. Conditions: none beyond those of each theorem.
-/
import Derived.Test.YtcoaoheakeodoaaDoorDrawE
namespace Go.Proofs.YtcoaoheakeodoaaDoor
open Go.ChangeShapes Go.WideShapes Go.ChangeAt Go.RowKit

/-- What lies behind the first byte of a code. -/
theorem row1 {w : World} {a : Option Addr} {len cap : Nat} {zs : List Int} (h : IsRow .u8 w a len cap zs) (h1 : 1 ≤ len) : ∃ x, a = some x ∧ len ≤ cap ∧
    ((cap = 1 ∧ len = 1 ∧ IsRow .u8 w (some x) 0 0 []) ∨ (cap ≠ 1 ∧ IsRow .u8 w (some ⟨x.block, x.off + 1, none⟩) (len - 1) (cap - 1) (zs.drop 1))) := by
  rcases h with ⟨_, rfl, _⟩ | ⟨x, rfl, hl, hm, hz, hc, hw⟩
  · omega
  · refine ⟨x, rfl, hl, ?_⟩
    have h : IsRow .u8 w (some x) len cap zs := .inr ⟨x, rfl, hl, hm, hz, hc, hw⟩
    by_cases hc1 : cap = 1
    · exact .inl ⟨hc1, by omega, IsRow.none_left⟩
    · exact .inr ⟨hc1, h.part' 1 (len - 1) (by omega) (by omega)⟩

def TwoPost (n : Nat) (w : World) (e : Ending) (w' : World) : Prop := ∃ a b : List UInt8, e = .returned (.tuple #[S a, S b]) ∧ a.length ≤ n ∧ b.length ≤ n ∧ Below w.heap.size w w'
theorem TwoPost.mk {n : Nat} {w w' : World} (s t : ByteArray) (hs : s.size ≤ n) (ht : t.size ≤ n) (hb : Below w.heap.size w w') : TwoPost n w (.returned (.tuple #[.string s, .string t])) w' := by
  obtain ⟨⟨l⟩⟩ := s
  obtain ⟨⟨k⟩⟩ := t
  exact ⟨l, k, rfl, hs, ht, hb⟩

/-- The two texts of raw bytes. -/
theorem two_of_cut {n : Nat} {w w1 : World} {a2 : Option Addr} {len len2 cap2 : Nat} {zs2 : List Int} {s : ByteArray} (hn : len ≤ n) (hrow : IsRow .u8 w a2 len2 cap2 zs2) (hsz : (len2 = 0 ∧ s.size = 0) ∨ s.size + len2 + 3 = len) (hl2 : len2 ≤ n) (hg : w.grownBy w1 none) :
    ∃ t : ByteArray, (∀ q, (convert 22 9 (.slice a2 len2 cap2)).run Tryd.prog (w1.drewN q) = .ok (.string t) (w1.drewN q)) ∧ ∀ q, TwoPost n w (.returned (.tuple #[.string s, .string t])) (w1.drewN q) := by
  obtain ⟨t, ht, hcv⟩ := conv_row (hrow.grown hg (fun _ _ _ e => by cases e))
  refine ⟨t, fun q => hcv _ (fun _ => rfl), fun q => TwoPost.mk s t (by omega) (by omega) (below_drewN ((Below.refl _ w).grown hg (Nat.le_refl _) (fun _ e => by cases e)) q)⟩


end Go.Proofs.YtcoaoheakeodoaaDoor

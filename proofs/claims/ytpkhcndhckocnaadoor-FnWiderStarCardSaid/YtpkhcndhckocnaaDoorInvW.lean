/-
  What calls in a drawn region keep: WriteAll. Conditions: none beyond those of each theorem.
-/
import Derived.Test.YtpkhcndhckocnaaDoorInv
import Derived.Test.YtpkhcndhckocnaaDoorTermH
import Derived.Deep.RegionWith
import Derived.Deep.DeepCutAuto
import Derived.Deep.CutBlock
namespace Go.Proofs.YtpkhcndhckocnaaDoor
open Go.ChangeShapes Go.WideShapes Go.ChangeAt Go.RowKit

theorem writeI (ae : Addr) (w : World) (v : Value) (ts : List Tm) (hT : TmsRd 0 w v ts) (hw : weight ts ≤ 100000000) (hn : ∀ t ∈ ts, okNum t) (W : World) (hI : Inv ae w W) :
    Calls Tryd.prog 21 #[v] W fun e w' => e = .returned (S (writeA ts)) ∧ Inv ae w w' := by
  refine (writeAll_call 0 v ts W (hT.below hI.2) hw hn).mono ?_
  rintro e w' ⟨rfl, hb⟩
  exact ⟨rfl, hI.on hb⟩
theorem weight_drop (ts : List Tm) (k : Nat) : weight (ts.drop k) ≤ weight ts := by
  have := congrArg weight (List.take_append_drop k ts)
  rw [weight_append] at this
  omega
/-- What is behind a place, as the model cuts it. -/
theorem TmsRd.behind {w : World} {g o cap : Nat} {ts : List Tm} (h : TmsRd 0 w (.slice (some ⟨g, o, none⟩) ts.length cap) ts) (k : Nat) (hk : k < ts.length) :
    (k + 1 < cap → TmsRd 0 w (.slice (some ⟨g, o + (k + 1) * 4, none⟩) (ts.length - (k + 1)) (cap - (k + 1))) (ts.drop (k + 1))) ∧ (k + 1 = cap → TmsRd 0 w (.slice (some ⟨g, o, none⟩) 0 0) (ts.drop (k + 1))) := by
  obtain ⟨a', cap', e, hc, _⟩ := id h
  injection e with _ _ e
  subst e
  refine ⟨fun _ => h.drop (k + 1) _ (by omega), fun he => ?_⟩
  have : ts.drop (k + 1) = [] := List.drop_eq_nil_of_le (by omega)
  rw [this]
  exact ⟨_, 0, rfl, by simp, fun j t hj => by simp at hj⟩

end Go.Proofs.YtpkhcndhckocnaaDoor

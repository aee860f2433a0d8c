/-
  A class matches one character only. Conditions: none beyond those of each theorem.
-/
import Derived.Test.YtiibjjhjbbidoaaDoorLawT
namespace Go.Proofs.YtiibjjhjbbidoaaDoor
open Go Go.Lib

theorem law_classLength {t : Tm} (hg : goodTm t) (hk : t.kind = 2) {n : Bs} (hv : validD n = true) (hl : (runes n).length ≠ 1) : mm (writeW t) n = false := by
  have hp : parse false (writeW t) = some (exs [t]) := by
    have := parse_writeA [t] (by intro x hx; rw [List.mem_singleton.1 hx]; exact hg)
    have e : writeA [t] = writeW t := by
      show writeW t ++ [] = _
      rw [List.append_nil]
    rw [e] at this
    exact this
  obtain ⟨h1, h2⟩ := valid_runes _ n (Nat.le_refl _) hv
  rw [mm_of hp]
  conv => lhs; rw [← h2]
  rw [gm_sound [t] (runes n) (by intro x hx; rw [List.mem_singleton.1 hx]; exact hg) h1 (.inr rfl)]
  cases hc : gmR [t] (runes n) with
  | false => rfl
  | true =>
    have hm := gmR_mtr _ _ hc
    have hm2 : (if t.kind = 0 then fitStar (mtr []) (runes n) else fitOne t (mtr []) (runes n)) = true := hm
    rw [if_neg (by omega)] at hm2
    obtain ⟨x, r, e, _, hr⟩ := (mtr_main [] t (runes n) (fun r => r = []) (fun r => by show r.isEmpty = true ↔ _; exact List.isEmpty_iff)).1 hm2
    rw [e, hr] at hl
    exact absurd rfl hl

end Go.Proofs.YtiibjjhjbbidoaaDoor

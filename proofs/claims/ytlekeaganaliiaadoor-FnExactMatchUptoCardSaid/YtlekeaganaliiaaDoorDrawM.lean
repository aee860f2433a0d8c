/-
  spoil, DrawMatch, DrawFails, DrawConcat: contracts. Conditions: none beyond those of each theorem.
-/
import Derived.Test.YtlekeaganaliiaaDoorTermD
import Derived.Test.YtlekeaganaliiaaDoorWriteC
import Derived.Test.YtlekeaganaliiaaDoorDrawF
namespace Go.Proofs.YtlekeaganaliiaaDoor
open Go.ChangeShapes Go.WideShapes Go.ChangeAt Go.RowKit

theorem encs_len (cs : List Nat) : (encs cs).length ≤ 4 * cs.length := by
  induction cs with
  | nil => simp [encs_nil]
  | cons c cs ih =>
    have := enc_len c
    rw [encs_cons, List.length_append, List.length_cons]
    omega

/-- The two parts of characters, as texts; behind the end the address stays. -/
theorem conv_parts {w : World} {g cap : Nat} {cs : List Nat} (h : RunesAt w (some ⟨g, 0, none⟩) cs.length cap cs) (k : Nat) (hk : k ≤ cs.length) : ∃ s1 s2 : ByteArray, s1.size ≤ 4 * cs.length ∧ s2.size ≤ 4 * cs.length ∧
    (∀ q, (convert 54 9 (.slice (some ⟨g, 0, none⟩) k cap)).run Tryd.prog (w.drewN q) = .ok (.string s1) (w.drewN q)) ∧
    (cap = k → ∀ q, (convert 54 9 (.slice (some ⟨g, 0, none⟩) (cs.length - k) (cap - k))).run Tryd.prog (w.drewN q) = .ok (.string s2) (w.drewN q)) ∧
    (cap ≠ k → ∀ q, (convert 54 9 (.slice (some ⟨g, k, none⟩) (cs.length - k) (cap - k))).run Tryd.prog (w.drewN q) = .ok (.string s2) (w.drewN q)) := by
  obtain ⟨s1, e1, h1⟩ := conv_back (h.part k hk)
  have hr := h.rest k hk
  rw [Nat.zero_add] at hr
  obtain ⟨s2, e2, h2⟩ := conv_back hr
  have l1 : s1.size ≤ 4 * cs.length := by
    rw [ba_len, e1]
    have := encs_len (cs.take k)
    rw [List.length_take] at this
    omega
  have l2 : s2.size ≤ 4 * cs.length := by
    rw [ba_len, e2]
    have := encs_len (cs.drop k)
    rw [List.length_drop] at this
    omega
  by_cases hc : cap = k
  · have hcl := h.2.1
    have hz : RunesAt w (some ⟨g, 0, none⟩) (cs.length - k) (cap - k) [] := ⟨by simp; omega, by omega, fun j c hj => by simp at hj⟩
    obtain ⟨s3, e3, h3⟩ := conv_back hz
    exact ⟨s1, s3, l1, by rw [ba_len, e3]; simp [encs_nil], h1, fun _ => h3, fun h => absurd hc h⟩
  · exact ⟨s1, s2, l1, l2, h1, fun h => absurd h hc, fun _ => h2⟩


theorem Below.gr {w w' : World} (h : Below w.heap.size w w') (r : Option Nat) : w.grownBy w' r := ⟨h.os, h.tape, h.output, h.size, fun k hk _ => h.block k hk⟩

theorem drawn_weight (ts : List Tm) (h : ∀ t ∈ ts, drawnT t) : weight ts ≤ 4 * ts.length := by
  induction ts with
  | nil => simp [weight]
  | cons t ts ih =>
    have h1 := (h t (by simp)).2.2.1
    have h2 := ih (fun x hx => h x (by simp [hx]))
    rw [weight_cons, List.length_cons]
    omega
theorem drawn_ok {t : Tm} (h : drawnT t) : okNum t := ⟨by have := h.1; omega, by have := h.2.1; omega, fun r hr => by have := h.2.2.2 r hr; omega⟩

/-- WriteAll of drawn terms: the reader and older terms stay. -/
theorem writeDrawn (base B : Nat) (m : Int) (lo : Nat) (v : Value) (xs : List TV) (w : World) (hR : Rd base w B m) (h : TermsAt lo w v xs) (hl : xs.length ≤ 100) :
    Calls Tryd.prog 66 #[v] w fun e w' => ∃ s : Bs, e = .returned (S s) ∧ s.length ≤ 44 * xs.length ∧ Rd base w' B m ∧ Below w.heap.size w w' := by
  obtain ⟨ts, hts, his, hd⟩ := h.is
  have hw := drawn_weight ts hd
  have hwl := writeA_len ts
  refine (writeAll_call lo v ts w his.rd (by omega) (fun t ht => drawn_ok (hd t ht))).mono ?_
  rintro e w' ⟨rfl, hb⟩
  exact ⟨writeA ts, rfl, by omega, hR.grown (Below.gr hb none) (fun _ e => by cases e), hb⟩



end Go.Proofs.YtlekeaganaliiaaDoor

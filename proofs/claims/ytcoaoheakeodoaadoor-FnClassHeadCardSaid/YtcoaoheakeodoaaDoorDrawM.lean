/-
  spoil, DrawMatch, DrawFails, DrawConcat: contracts. Conditions: none beyond those of each theorem.
-/
import Derived.Test.YtcoaoheakeodoaaDoorTermD
import Derived.Test.YtcoaoheakeodoaaDoorWriteC
import Derived.Test.YtcoaoheakeodoaaDoorDrawF
namespace Go.Proofs.YtcoaoheakeodoaaDoor
open Go.ChangeShapes Go.WideShapes Go.ChangeAt Go.RowKit

theorem encs_len (cs : List Nat) : (encs cs).length ≤ 4 * cs.length := by
  induction cs with
  | nil => simp [encs_nil]
  | cons c cs ih =>
    have := enc_len c
    rw [encs_cons, List.length_append, List.length_cons]
    omega

/-- The two parts of characters, as texts; behind the end the address stays. -/
theorem conv_parts {w : World} {g cap : Nat} {cs : List Nat} (h : RunesAt w (some ⟨g, 0, none⟩) cs.length cap cs) (k : Nat) (hk : k ≤ cs.length) : ∃ s1 s2 : ByteArray, s1.size ≤ 4 * cs.length ∧ s2.size ≤ 4 * cs.length ∧
    (∀ q, (convert 36 9 (.slice (some ⟨g, 0, none⟩) k cap)).run Tryd.prog (w.drewN q) = .ok (.string s1) (w.drewN q)) ∧
    (cap = k → ∀ q, (convert 36 9 (.slice (some ⟨g, 0, none⟩) (cs.length - k) (cap - k))).run Tryd.prog (w.drewN q) = .ok (.string s2) (w.drewN q)) ∧
    (cap ≠ k → ∀ q, (convert 36 9 (.slice (some ⟨g, k, none⟩) (cs.length - k) (cap - k))).run Tryd.prog (w.drewN q) = .ok (.string s2) (w.drewN q)) := by
  obtain ⟨s1, e1, h1⟩ := conv_back (h.part k hk)
  have hr := h.rest k hk
  rw [Nat.zero_add] at hr
  obtain ⟨s2, e2, h2⟩ := conv_back hr
  have l1 : s1.size ≤ 4 * cs.length := by
    rw [ba_len, e1]
    have := encs_len (cs.take k)
    rw [List.length_take] at this
    omega
  have l2 : s2.size ≤ 4 * cs.length := by
    rw [ba_len, e2]
    have := encs_len (cs.drop k)
    rw [List.length_drop] at this
    omega
  by_cases hc : cap = k
  · have hcl := h.2.1
    have hz : RunesAt w (some ⟨g, 0, none⟩) (cs.length - k) (cap - k) [] := ⟨by simp; omega, by omega, fun j c hj => by simp at hj⟩
    obtain ⟨s3, e3, h3⟩ := conv_back hz
    exact ⟨s1, s3, l1, by rw [ba_len, e3]; simp [encs_nil], h1, fun _ => h3, fun h => absurd hc h⟩
  · exact ⟨s1, s2, l1, l2, h1, fun h => absurd h hc, fun _ => h2⟩

set_option maxHeartbeats 2000000 in
theorem spoil_any (base B : Nat) (m : Int) (p : Bs) (w : World) (h : Rd base w B m) (hp : p.length ≤ 100000) (h0 : 0 ≤ m) (hm : m ≤ 800000) :
    Calls Tryd.prog 25 #[.pointer (some ⟨B, 0, none⟩), S p] w (TextPost base B (m + 2) (8 * p.length + 8) w) := by
  obtain ⟨cp, W1, hcv, hra, hg1, hsz1⟩ := conv_runes w p (by omega)
  have hlen := runes_len _ p (Nat.le_refl _)
  have hlt := h.lt
  have hR1 := Lib.hid (h.grown hg1 (fun _ e => by cases e))
  have HRA := Lib.hid hra
  have hcl := hra.2.1
  have HG1 := Lib.hid hg1
  clear h hra hg1 hsz1
  generalize runes p = cs at *
  go_enter Tryd.func25, Tryd.ntmps25
  go_wp2_with fail
  refine (pick_any base B m (cs.length + 1) _ hR1.out (by omega) (by omega)).mono ?_
  rintro e w1 ⟨x, rfl, hx0, hx1, hx2, hRd, hg⟩
  have hX := hx1 (by omega)
  obtain ⟨k, rfl⟩ := Int.eq_ofNat_of_zero_le hx0
  have hk : k ≤ cs.length := by omega
  have hD1 : Hid (Drew base B (m + 1) w w1) := Lib.hid ⟨hRd, (show w.grownBy W1 (some B) from ⟨HG1.out.os, HG1.out.tape, HG1.out.output, HG1.out.size, fun j hj _ => HG1.out.block j hj (by simp)⟩).trans hg⟩
  have HRA1 := Lib.hid (HRA.out.grown hg (fun j e x ex => by injection e with e; injection ex with ex; subst ex; show w.heap.size ≠ j; omega))
  clear hRd hg hR1 HRA HG1 hx1 hx2 hX hx0 hcv
  go_wp2_with fail
  refine (pick_any base B _ 12 _ hD1.out.1 (by omega) (by omega)).mono ?_
  rintro e w2 ⟨x, rfl, hx0, hx1, hx2, hRd, hg⟩
  have hD2 := Lib.hid (hD1.out.trans ⟨hRd, hg⟩)
  obtain ⟨s1, s2, l1, l2, v1, v2, v3⟩ := conv_parts (HRA1.out.grown hg (fun j e x ex => by injection e with e; injection ex with ex; subst ex; show w.heap.size ≠ j; omega)) k hk
  clear hRd hg hD1 HRA1 hx1 hx2
  have u1 : (convert 36 9 (.slice (some ⟨w.heap.size, 0, none⟩) k cp)).run Tryd.prog w2 = .ok (.string s1) w2 := v1 0
  have hk0 : (0 : Int) ≤ (k : Int) := by omega
  have hk1 : (k : Int) ≤ (cs.length : Int) := by omega
  have hk2 : (k : Int) ≤ (cp : Int) := by omega
  have hfin : ∀ (s : ByteArray) (q : Nat), s.size ≤ 8 * p.length + 8 → TextPost base B (m + 2) (8 * p.length + 8) w (.returned (.string s)) (w2.drewN q) := fun s q hs => ⟨s, rfl, hs, (hD2.out.mono (by omega)).1.grown (r := none) ⟨rfl, rfl, rfl, Nat.le_refl _, fun _ _ _ => rfl⟩ (fun _ e => by cases e), ⟨hD2.out.2.os, hD2.out.2.tape, hD2.out.2.output, hD2.out.2.size, hD2.out.2.block⟩⟩
  have HF := Lib.hid hfin
  have hfin0 : ∀ (s : ByteArray), s.size ≤ 8 * p.length + 8 → TextPost base B (m + 2) (8 * p.length + 8) w (.returned (.string s)) w2 := fun s hs => HF.out s 0 hs
  have HF0 := Lib.hid hfin0
  have hps : (⟨p.toArray⟩ : ByteArray).size ≤ p.length := Nat.le_refl _
  clear hfin hfin0 hD2
  have hx : x = 2 ∨ (x = 0 ∨ x = 1 ∨ x = 3 ∨ x = 4) ∨ (x ≠ 0 ∧ x ≠ 1 ∧ x ≠ 2 ∧ x ≠ 3 ∧ x ≠ 4) := by omega
  rcases hx with rfl | hx | ⟨e0, e1, e2, e3, e4⟩
  · clear v1 v2 v3
    go_wp2
    go_ret
    exact HF0.out _ (by omega)
  · by_cases hc : cp = k
    · have v2' := v2 hc
      clear v2 v3
      subst hc
      have hz0 : cs.length - cp = 0 := by omega
      have v4 : ∀ q, (convert 36 9 (.slice (some ⟨w.heap.size, 0, none⟩) (cs.length - cp) 0)).run Tryd.prog (w2.drewN q) = .ok (.string s2) (w2.drewN q) := fun q => by have := v2' q; rwa [Nat.sub_self] at this
      have v5 : ∀ q, (convert 36 9 (.slice (some ⟨w.heap.size, 0, none⟩) 0 0)).run Tryd.prog (w2.drewN q) = .ok (.string s2) (w2.drewN q) := fun q => by have := v4 q; rwa [hz0] at this
      clear v2' hz0
      rcases hx with rfl | rfl | rfl | rfl
      all_goals
        go_wp2_with fail
        go_quiet (fail)
        go_wp2
        go_ret
        exact HF.out _ _ (by rw [ByteArray.size_append, ByteArray.size_append]; show s1.size + 1 + s2.size ≤ _; omega)
    · have v3' := v3 hc
      have hz : (cp == k) = false := by simpa using hc
      have hz2 : ((cp : Int) == (k : Int)) = false := by simp; omega
      clear v2 v3
      rcases hx with rfl | rfl | rfl | rfl
      all_goals
        go_wp2_with fail
        go_quiet (fail)
        go_wp2
        go_ret
        exact HF.out _ _ (by rw [ByteArray.size_append, ByteArray.size_append]; show s1.size + 1 + s2.size ≤ _; omega)
  · have b0 : (x == 0) = false := by simpa using e0
    have b1 : (x == 1) = false := by simpa using e1
    have b2 : (x == 2) = false := by simpa using e2
    have b3 : (x == 3) = false := by simpa using e3
    have b4 : (x == 4) = false := by simpa using e4
    clear e0 e1 e2 e3 e4 v1 v2 v3
    go_wp2
    go_ret
    exact HF0.out _ (by omega)

theorem Below.gr {w w' : World} (h : Below w.heap.size w w') (r : Option Nat) : w.grownBy w' r := ⟨h.os, h.tape, h.output, h.size, fun k hk _ => h.block k hk⟩

theorem drawn_weight (ts : List Tm) (h : ∀ t ∈ ts, drawnT t) : weight ts ≤ 4 * ts.length := by
  induction ts with
  | nil => simp [weight]
  | cons t ts ih =>
    have h1 := (h t (by simp)).2.2.1
    have h2 := ih (fun x hx => h x (by simp [hx]))
    rw [weight_cons, List.length_cons]
    omega
theorem drawn_ok {t : Tm} (h : drawnT t) : okNum t := ⟨by have := h.1; omega, by have := h.2.1; omega, fun r hr => by have := h.2.2.2 r hr; omega⟩

/-- WriteAll of drawn terms: the reader and older terms stay. -/
theorem writeDrawn (base B : Nat) (m : Int) (lo : Nat) (v : Value) (xs : List TV) (w : World) (hR : Rd base w B m) (h : TermsAt lo w v xs) (hl : xs.length ≤ 100) :
    Calls Tryd.prog 23 #[v] w fun e w' => ∃ s : Bs, e = .returned (S s) ∧ s.length ≤ 44 * xs.length ∧ Rd base w' B m ∧ Below w.heap.size w w' := by
  obtain ⟨ts, hts, his, hd⟩ := h.is
  have hw := drawn_weight ts hd
  have hwl := writeA_len ts
  refine (writeAll_call lo v ts w his.rd (by omega) (fun t ht => drawn_ok (hd t ht))).mono ?_
  rintro e w' ⟨rfl, hb⟩
  exact ⟨writeA ts, rfl, by omega, hR.grown (Below.gr hb none) (fun _ e => by cases e), hb⟩



end Go.Proofs.YtcoaoheakeodoaaDoor

/-
  MatchTerms and Match of the reference: their contracts. Conditions: none beyond those of each theorem.
-/
import Derived.Test.YtlfppmhkgfhecaaDoorFitC
import Derived.Test.YtlfppmhkgfhecaaDoorTermG
import Derived.Test.YtlfppmhkgfhecaaDoorReadD
import Derived.Deep.RegionHeld3
namespace Go.Proofs.YtlfppmhkgfhecaaDoor
open Go.ChangeShapes Go.WideShapes Go.ChangeAt Go.RowKit

def MtRel (ts : List Tm) (cs : List Nat) (w : World) (bv kv : Value) (wr : World) : Prop :=
  ∃ k : Nat, kv = .int .i64 ((k : Int) - 1) ∧ k ≤ ts.length ∧ BoolsRd wr bv (mtr (ts.drop k)) cs ∧ Below w.heap.size w wr

set_option maxHeartbeats 1000000 in
theorem matchTerms_call (lo : Nat) (tv : Value) (ts : List Tm) (na : Option Addr) (ncap : Nat) (cs : List Nat) (w : World) (hT : TmsRd lo w tv ts) (hn : RunesAt w na cs.length ncap cs) (hk : ∀ t ∈ ts, okNum t) (hw : weight ts ≤ 100000000) (hcl : cs.length ≤ 100000000) (hc : ∀ c ∈ cs, c ≤ 2147483647) :
    Calls Tryd.prog 50 #[tv, .slice na cs.length ncap] w fun e w' => e = .returned (.bool (mtr ts cs)) ∧ Below w.heap.size w w' := by
  obtain ⟨W2, hW2⟩ : ∃ W2, W2 = w.alloc (.cells (madeCells #[.bool false] (cs.length + 1)) 4) := ⟨_, rfl⟩
  have hmk := make_bools w cs.length (by omega) _ rfl
  rw [← hW2] at hmk
  have hrow : BRow W2 w.heap.size cs.length (fun _ => false) := by rw [hW2]; exact BRow.made w _ _ rfl
  have hB2 : Below w.heap.size w W2 := by rw [hW2]; exact (Below.refl _ _).alloc (Nat.le_refl _) _
  obtain ⟨ho0, ho1⟩ := hrow.2 cs.length (Nat.le_refl _)
  have hB3 : Below w.heap.size w (W2.setCell ⟨w.heap.size, cs.length, none⟩ (.bool true)) := hB2.grown (grownBy_setCell W2 w.heap.size cs.length (.bool true) 0) hB2.size (fun j e => by injection e with e; omega)
  have hrow2 := (hrow.set cs.length (Nat.le_refl _) true).congr (O' := fun i => mtr [] (cs.drop i)) (fun i hi => by
    show (if i = cs.length then true else false) = (cs.drop i).isEmpty
    by_cases e : i = cs.length
    · subst e; rw [if_pos rfl, List.drop_length]; rfl
    · rw [if_neg e]
      cases hd : cs.drop i with
      | nil => have := congrArg List.length hd; rw [List.length_drop] at this; simp at this; omega
      | cons => rfl)
  have hwl := weight_len ts
  obtain ⟨ta, tcap, rfl, htc, hcells⟩ := id hT
  have HT := Lib.hid hT
  have HN := Lib.hid hn
  have HK := Lib.hid hk
  have HC := Lib.hid hc
  have HB3 := Lib.hid hB3
  have HR3 := Lib.hid hrow2
  have hnl : (cs.length : Int) < (cs.length : Int) + 1 := by omega
  have hnl2 : (cs.length : Int) < ((cs.length + 1 : Nat) : Int) := by omega
  have hn0 : (0 : Int) ≤ (cs.length : Int) := by omega
  clear hT hn hk hc hB3 hrow2 hrow hB2 hW2 hcells
  go_enter Tryd.func50, Tryd.ntmps50
  go_wp2
  go_loopw [5, 6] (fun bv kv wr => MtRel ts cs w bv kv wr) (fun _ kv _ => (intOf kv + 1).toNat)
  case atStart => exact ⟨ts.length, by go_num, Nat.le_refl _, by rw [List.drop_length]; exact ⟨_, _, rfl, HR3.out⟩, HB3.out⟩
  case round =>
    clear HB3 HR3 hmk ho0 ho1
    obtain ⟨k, rfl, hk, hB, hbw⟩ := hrel
    have HB := Lib.hid hB
    have HBW := Lib.hid hbw
    clear hbw
    by_cases hk0 : k = 0
    · subst hk0
      obtain ⟨g, cap, rfl, hr⟩ := hB
      obtain ⟨hc0, _⟩ := hr.2 0 (Nat.zero_le _)
      have hc0 : wr.cell? ⟨g, 0, none⟩ = some (.bool (mtr ts cs)) := hc0
      clear HB HT HN HK HC hr
      generalize mtr ts cs = X at *
      go_wp2
      go_ret
      exact ⟨rfl, HBW.out⟩
    · obtain ⟨m, rfl⟩ : ∃ m, k = m + 1 := ⟨k - 1, by omega⟩
      have hjv : ((m + 1 : Nat) : Int) - 1 = (m : Int) := by omega
      rw [hjv]
      obtain ⟨t, ht⟩ : ∃ t, ts[m]? = some t := ⟨_, List.getElem?_eq_getElem (by omega)⟩
      obtain ⟨a', cap', e', _, hcells⟩ := HT.out.below HBW.out
      obtain ⟨g, o, rv, rfl, hlo, hlt, c1, c2, c3, c4, hrg⟩ := hcells m t ht
      injection e' with e1 e2 e3
      subst e1 e3
      have hdr : ts.drop m = t :: ts.drop (m + 1) := by
        obtain ⟨hm, rfl⟩ := List.getElem?_eq_some_iff.1 ht
        exact List.drop_eq_getElem_cons hm
      have HMT : Hid (mtr (ts.drop m) = fitT t (mtr (ts.drop (m + 1)))) := Lib.hid (by rw [hdr, mtr_fitT])
      obtain ⟨n1, n2, n3⟩ := HK.out t (List.mem_of_getElem? ht)
      have hwt := weight_at' ht
      have HCALL := Lib.hid (fits_call lo t rv (mtr (ts.drop (m + 1))) na ncap cs _ wr hrg (HN.out.below HBW.out) HB.out n1 (by omega) n3 hcl HC.out)
      have hmi : (m : Int) < (ts.length : Int) := by omega
      have hm0 : (0 : Int) ≤ (m : Int) := by omega
      obtain ⟨ra, rcap, rfl, _⟩ := hrg
      obtain ⟨tk, tc, tn, trs⟩ := t
      simp only at c1 c2 c3 c4 n1 n2 HCALL HMT
      clear e2 hcells hB n3 hdr hk0 ht hjv HB
      go_wp2_with fail
      refine HCALL.out.mono ?_
      rintro e w2 ⟨v, rfl, hb2, hbl⟩
      have HB2 : Hid (BoolsRd w2 v (mtr (ts.drop m)) cs) := Lib.hid (by rw [HMT.out]; exact hb2)
      have HBW2 := Lib.hid (HBW.out.trans (hbl.mono HBW.out.size))
      clear hb2 hbl HBW HCALL HMT
      go_wp2
      go_roundw
      case rel => exact ⟨m, by go_num, by omega, HB2.out, HBW2.out⟩
      case measure => simp [intOf]

set_option maxHeartbeats 1000000 in
theorem specMatch_call (P N : ByteArray) (p n : Bs) (ts : List Tm) (w : World) (hP : P.data.toList = p) (hN : N.data.toList = n) (hp : p.length ≤ 10000000) (hn : n.length ≤ 10000000) (hrd : readR (runes p) = .good ts) (hok : ∀ t ∈ ts, okNum t) (hv : Lib.validD n = true) :
    Calls Tryd.prog 28 #[.string P, .string N] w fun e w' => e = .returned (.tuple #[.bool (mtr ts (runes n)), .bool false]) ∧ Below w.heap.size w w' := by
  rw [str_eq hN]
  obtain ⟨X, hX⟩ : ∃ X, X = mtr ts (runes n) := ⟨_, rfl⟩
  rw [← hX]
  have HX := Lib.hid hX
  clear hX
  have hwt := read_weight' p ts hrd
  have hrl := runes_len _ n (Nat.le_refl _)
  have hrdo : rdOk p = true := by unfold rdOk; rw [hrd]; rfl
  have hcs : ∀ c ∈ runes n, c ≤ 2147483647 := fun c hc => by
    have := (valid_runes _ n (Nat.le_refl _) hv).1 c hc
    unfold sc at this
    omega
  have HOK := Lib.hid hok
  have HCS := Lib.hid hcs
  have HRD := Lib.hid hrd
  clear hok hcs hrd hv
  go_enter Tryd.func28, Tryd.ntmps28
  go_wp2_with fail
  refine (readB P p _ hP (by omega)).mono ?_
  rintro e w1 ⟨hb, va, vn, vc, rfl, hts⟩
  obtain ⟨rfl, htm⟩ := hts ts HRD.out
  rw [hrdo]
  generalize rdSet p = ST
  have HA : Hid (Below w.heap.size w (w1.alloc (.cells #[.slice va ts.length vc, .bool true, .bool ST] 29))) := Lib.hid (hb.alloc hb.size _)
  obtain ⟨cp, W1, hcv, hra, hg1, hsz1⟩ := conv_runes (w1.alloc (.cells #[.slice va ts.length vc, .bool true, .bool ST] 29)).drew n (by omega)
  have hdz : (w1.alloc (.cells #[.slice va ts.length vc, .bool true, .bool ST] 29)).drew.heap.size = w1.heap.size + 1 := by simp
  rw [hdz] at hcv hra
  have hb1 : Below w1.heap.size w1 (w1.alloc (.cells #[.slice va ts.length vc, .bool true, .bool ST] 29)) := (Below.refl _ w1).alloc (Nat.le_refl _) _
  have hbA : Below (w1.alloc (.cells #[.slice va ts.length vc, .bool true, .bool ST] 29)).heap.size (w1.alloc (.cells #[.slice va ts.length vc, .bool true, .bool ST] 29)) W1 := ⟨hg1.os, hg1.tape, hg1.output, hg1.size, fun k hk => hg1.block k hk (by simp)⟩
  have htm2 := (htm.below hb1).below hbA
  have hs1 : w1.heap.size < (w1.alloc (.cells #[.slice va ts.length vc, .bool true, .bool ST] 29)).heap.size := by simp
  have q0 : (w1.alloc (.cells #[.slice va ts.length vc, .bool true, .bool ST] 29)).cell? ⟨w1.heap.size, 0, none⟩ = some (.slice va ts.length vc) := by simp
  have q1 : (w1.alloc (.cells #[.slice va ts.length vc, .bool true, .bool ST] 29)).cell? ⟨w1.heap.size, 1, none⟩ = some (.bool true) := by simp
  have p0 : W1.cell? ⟨w1.heap.size, 0, none⟩ = some (.slice va ts.length vc) := (hbA.cell (p := ⟨w1.heap.size, 0, none⟩) hs1).trans q0
  have p1 : W1.cell? ⟨w1.heap.size, 1, none⟩ = some (.bool true) := (hbA.cell (p := ⟨w1.heap.size, 1, none⟩) hs1).trans q1
  have HBA := Lib.hid hbA
  have HB1 : Hid (Below w.heap.size w W1) := Lib.hid (HA.out.trans (hbA.mono HA.out.size))
  have hs2 : w1.heap.size < W1.heap.size := Nat.lt_of_lt_of_le hs1 hbA.size
  have hcall := matchTerms_call w.heap.size (.slice va ts.length vc) ts (some ⟨w1.heap.size + 1, 0, none⟩) cp (runes n) W1 htm2 hra HOK.out (by omega) (by omega) HCS.out
  rw [← HX.out] at hcall
  have HCALL := Lib.hid hcall
  clear hcall HX
  clear hdz hb htm htm2 hra hg1 hsz1 hts hb1 hbA HOK HCS HRD
  go_wp2_with fail
  first | go_region_with (go_at_call 50; refine HCALL.out.mono ?_; rintro e w3 ⟨rfl, hb3⟩; have r0 := (hb3.cell (p := ⟨w1.heap.size, 0, none⟩) hs2).trans p0; have r1 := (hb3.cell (p := ⟨w1.heap.size, 1, none⟩) hs2).trans p1; have HB3 := Lib.hid (HB1.out.trans (hb3.mono HB1.out.size)); clear hb3) | go_region_with (go_at_call 50; refine HCALL.out.mono ?_; rintro e w3 ⟨rfl, hb3⟩; have r0 := (hb3.cell (p := ⟨w1.heap.size, 0, none⟩) hs2).trans p0; have r1 := (hb3.cell (p := ⟨w1.heap.size, 1, none⟩) hs2).trans p1; have HB3 := Lib.hid (HB1.out.trans (hb3.mono HB1.out.size)); clear hb3)
  all_goals
    go_wp2
    go_ret2
    exact ⟨rfl, HB3.out⟩

end Go.Proofs.YtlfppmhkgfhecaaDoor

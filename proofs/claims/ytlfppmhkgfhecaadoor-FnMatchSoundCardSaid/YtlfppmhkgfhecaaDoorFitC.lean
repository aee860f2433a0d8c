/-
  fits, MatchTerms, Match of the reference: their contracts. Conditions: none beyond those of each theorem.
-/
import Derived.Test.YtlfppmhkgfhecaaDoorLawQ
import Derived.Test.YtlfppmhkgfhecaaDoorLate
namespace Go.Proofs.YtlfppmhkgfhecaaDoor
open Go.ChangeShapes Go.WideShapes Go.ChangeAt Go.RowKit

theorem infoBool : (Tryd.prog.info? 4).map (fun i => (i.zero, i.size, i.bytes)) = some (some (.bool false), 1, 1) := by kernel_rfl
theorem make_bools (w : World) (n : Nat) (hn : n ≤ 1000000000) (m : Int) (hm : m = (n : Int) + 1) : (Instr.makeSlice 89 (.int .i64 m) (.int .i64 m)).run Tryd.prog w = .ok (.slice (some ⟨w.heap.size, 0, none⟩) (n + 1) (n + 1)) (w.alloc (.cells (madeCells #[.bool false] (n + 1)) 4)) := by
  obtain ⟨i0, hi, hz0, hz1, hz2⟩ := info_parts infoBool
  have h := run_make (P := Tryd.prog) w 89 4 i0 (.bool false) Tryd.underlying89 hi hz0 .i64 .i64 m m (by omega) (Int.le_refl _) (by rw [hz2]; omega) (by omega)
  have e : m.toNat = n + 1 := by omega
  rw [h, e, hz1, Nat.mul_one]
  rfl
/-- Truth values, each written down. -/
def BRow (w : World) (g n : Nat) (O : Nat → Bool) : Prop := g < w.heap.size ∧ ∀ i, i ≤ n → w.cell? ⟨g, i, none⟩ = some (.bool (O i)) ∧ w.frozen? ⟨g, i, none⟩ = false
theorem BRow.made (w : World) (h n : Nat) (hh : w.heap.size = h) : BRow (w.alloc (.cells (madeCells #[.bool false] (n + 1)) 4)) h n (fun _ => false) := by
  subst hh
  have hs : ∀ i, i ≤ n → (madeCells #[Value.bool false] (n + 1))[i]? = some (.bool false) := fun i hi => by
    rw [Array.getElem?_eq_getElem (by rw [size_madeCells]; omega)]
    simp [madeCells, Nat.mod_one]
  refine ⟨by simp, fun i hi => ⟨?_, ?_⟩⟩
  · unfold World.cell?
    rw [heap_alloc_new]
    exact hs i hi
  · unfold World.frozen?
    rw [heap_alloc_new]
    simp
theorem BRow.set {w : World} {g n : Nat} {O : Nat → Bool} (h : BRow w g n O) (j : Nat) (hj : j ≤ n) (b : Bool) : BRow (w.setCell ⟨g, j, none⟩ (.bool b)) g n (fun i => if i = j then b else O i) := by
  obtain ⟨h0, h1⟩ := h
  have hg := grownBy_setCell w g j (.bool b) 0
  refine ⟨Nat.lt_of_lt_of_le h0 hg.size, fun i hi => ⟨?_, ?_⟩⟩
  · by_cases e : i = j
    · subst e
      show _ = some (Value.bool (if i = i then b else O i))
      rw [if_pos rfl]
      exact World.cell?_setCell_same _ _ _ (h1 i hi).1
    · show _ = some (Value.bool (if i = j then b else O i))
      rw [if_neg e, World.cell?_setCell_other]
      · exact (h1 i hi).1
      · intro e'
        injection e' with _ e'
        exact e e'.symm
  · have := (h1 i hi).2
    simpa using this
theorem BRow.kept {w w' : World} {g n : Nat} {O : Nat → Bool} (h : BRow w g n O) (hb : Below w.heap.size w w') : BRow w' g n O :=
  ⟨Nat.lt_of_lt_of_le h.1 hb.size, fun i hi => ⟨(hb.cell (p := ⟨g, i, none⟩) h.1).trans (h.2 i hi).1, (World.frozen?_of_block (a := ⟨g, i, none⟩) (hb.block g h.1)).trans (h.2 i hi).2⟩⟩
theorem BRow.congr {w : World} {g n : Nat} {O O' : Nat → Bool} (h : BRow w g n O) (e : ∀ i, i ≤ n → O i = O' i) : BRow w g n O' := ⟨h.1, fun i hi => by rw [← e i hi]; exact h.2 i hi⟩

/-- What fits behind, for each place of a name. -/
def BoolsRd (w : World) (v : Value) (f : List Nat → Bool) (cs : List Nat) : Prop := ∃ g cap, v = .slice (some ⟨g, 0, none⟩) (cs.length + 1) cap ∧ BRow w g cs.length (fun i => f (cs.drop i))
theorem BoolsRd.kept {w w' : World} {v : Value} {f : List Nat → Bool} {cs : List Nat} (h : BoolsRd w v f cs) (hb : Below w.heap.size w w') : BoolsRd w' v f cs := by
  obtain ⟨g, cap, e, hr⟩ := h
  exact ⟨g, cap, e, hr.kept hb⟩

def FitRel (t : Tm) (f : List Nat → Bool) (cs : List Nat) (w w1 : World) (j : Value) (wr : World) : Prop :=
  ∃ (k : Nat) (O : Nat → Bool), j = .int .i64 ((k : Int) - 1) ∧ k ≤ cs.length + 1 ∧ BRow wr (w.heap.size + 1) cs.length O ∧ (∀ i, k ≤ i → i ≤ cs.length → O i = fitT t f (cs.drop i)) ∧ (∀ i, i < k → O i = false) ∧ Below (w.heap.size + 1) w1 wr

theorem fit_step {t : Tm} {f : List Nat → Bool} {cs : List Nat} {w w1 w2 : World} {k : Nat} {O : Nat → Bool} (hk : k ≤ cs.length) (hB : BRow w2 (w.heap.size + 1) cs.length O) (hs : ∀ i, k + 1 ≤ i → i ≤ cs.length → O i = fitT t f (cs.drop i)) (h0 : ∀ i, i < k + 1 → O i = false)
    (hb : Below (w.heap.size + 1) w1 w2) (b : Bool) (hf : fitT t f (cs.drop k) = b) (W : World) (hW : W = w2.setCell ⟨w.heap.size + 1, k, none⟩ (.bool b)) (j : Value) (hj : j = .int .i64 ((k : Int) - 1)) (hsz : w.heap.size + 1 ≤ w1.heap.size) : FitRel t f cs w w1 j W := by
  subst hW
  refine ⟨k, _, hj, by omega, hB.set k hk b, fun i hi hn => ?_, fun i hi => ?_, hb.grown (grownBy_setCell w2 (w.heap.size + 1) k (.bool b) 0) (by have := hb.size; omega) (fun j e => by injection e with e; omega)⟩
  · by_cases e : i = k
    · subst e; rw [if_pos rfl, hf]
    · rw [if_neg e]; exact hs i (by omega) hn
  · rw [if_neg (by omega)]; exact h0 i (by omega)

theorem drop_cons_of {cs : List Nat} {m c : Nat} (h : cs[m]? = some c) : cs.drop m = c :: cs.drop (m + 1) := by
  obtain ⟨hm, rfl⟩ := List.getElem?_eq_some_iff.1 h
  exact List.drop_eq_getElem_cons hm
theorem below_drew {B : Nat} {w W : World} (h : Below B w W) : Below B w W.drew := ⟨h.os, h.tape, h.output, h.size, h.block⟩
theorem below_src {w W : World} (h : Below w.drew.heap.size w.drew W) : Below w.heap.size w W := ⟨h.os, h.tape, h.output, h.size, h.block⟩
set_option maxHeartbeats 2000000 in
theorem fits_call (lo : Nat) (t : Tm) (rv : Value) (f : List Nat → Bool) (na : Option Addr) (ncap : Nat) (cs : List Nat) (bv : Value) (w : World) (h : RgRd lo w rv t.rs) (hn : RunesAt w na cs.length ncap cs) (hb : BoolsRd w bv f cs) (hk : t.kind ≤ 100) (hl : t.rs.length ≤ 100000000) (hr : ∀ r ∈ t.rs, r.1 ≤ 2147483647 ∧ r.2 ≤ 2147483647) (hcl : cs.length ≤ 100000000) (hc : ∀ c ∈ cs, c ≤ 2147483647) :
    Calls Tryd.prog 67 #[.agg #[.int .i64 (t.kind : Nat), .int .i32 (t.chr : Nat), .bool t.neg, rv], .slice na cs.length ncap, bv] w fun e w' => ∃ v, e = .returned v ∧ BoolsRd w' v (fitT t f) cs ∧ Below w.heap.size w w' := by
  obtain ⟨W1, hW1⟩ : ∃ W1, W1 = w.alloc (.cells #[.int .i64 (t.kind : Nat), .int .i32 (t.chr : Nat), .bool t.neg, rv] 33) := ⟨_, rfl⟩
  have hsz1 : W1.heap.size = w.heap.size + 1 := by rw [hW1]; simp
  have hB1 : Below w.heap.size w W1 := by rw [hW1]; exact (Below.refl _ _).alloc (Nat.le_refl _) _
  obtain ⟨W2, hW2⟩ : ∃ W2, W2 = W1.alloc (.cells (madeCells #[.bool false] (cs.length + 1)) 4) := ⟨_, rfl⟩
  have hmk := make_bools W1 cs.length (by omega) _ rfl
  rw [hsz1, ← hW2] at hmk
  have hB2 : Below w.heap.size w W2 := by rw [hW2]; exact hB1.alloc (by omega) _
  have hB12 : Below (w.heap.size + 1) W1 W2 := by rw [hW2]; exact (Below.refl _ _).alloc (by omega) _
  have hsz2 : W2.heap.size = w.heap.size + 2 := by rw [hW2]; simp [hsz1]
  have hrow : BRow W2 (w.heap.size + 1) cs.length (fun _ => false) := by rw [hW2]; exact BRow.made W1 _ _ hsz1
  have ht1 : W1.heap[w.heap.size]? = some (.cells #[.int .i64 (t.kind : Nat), .int .i32 (t.chr : Nat), .bool t.neg, rv] 33 (0, 0)) := by rw [hW1]; exact heap_alloc_new w _
  obtain ⟨bg, bcap, rfl, hbr⟩ := hb
  obtain ⟨ra, rcap, rfl, _⟩ := id h
  have HR := Lib.hid h
  have HN := Lib.hid hn
  have HB := Lib.hid hbr
  have HC := Lib.hid hc
  have HRR := Lib.hid hr
  have HB2 := Lib.hid hB2
  have HB12 := Lib.hid hB12
  have HROW := Lib.hid hrow
  have HT1 := Lib.hid ht1
  clear h hn hbr hc hr hB1 hB2 hB12 hrow ht1 hW2
  obtain ⟨k, ch, n, rs⟩ := t
  simp only at hW1
  simp only at hk hl HR HRR HT1 HROW HB12 hmk ⊢
  subst hW1
  go_enter Tryd.func67, Tryd.ntmps67
  go_wp2
  go_loopw [8] (fun j wr => FitRel ⟨k, ch, n, rs⟩ f cs w (w.alloc (.cells #[.int .i64 (k : Nat), .int .i32 (ch : Nat), .bool n, .slice ra rs.length rcap] 33)) j wr) (fun j _ => (intOf j + 1).toNat)
  case atStart =>
    exact ⟨cs.length + 1, fun _ => false, by go_num, by omega, HROW.out, fun i h1 h2 => by omega, fun _ _ => rfl, HB12.out⟩
  case round =>
    clear HB2 HB12 HROW hmk
    obtain ⟨j, O, rfl, hj, hO, hO1, hO2, hBl⟩ := hrel
    have HO := Lib.hid hO
    have HO1 := Lib.hid hO1
    have HO2 := Lib.hid hO2
    have HBl := Lib.hid hBl
    clear hO hO1 hO2 hBl
    have HBW : Hid (Below w.heap.size w wr) := Lib.hid (((Below.refl _ w).alloc (Nat.le_refl _) _).trans (HBl.out.mono (by omega)))
    by_cases hj0 : j = 0
    · subst hj0
      have HR2 : Hid (BRow wr (w.heap.size + 1) cs.length (fun i => fitT ⟨k, ch, n, rs⟩ f (cs.drop i))) := Lib.hid (HO.out.congr (fun i hi => HO1.out i (Nat.zero_le _) hi))
      clear HO HO1 HO2 HBl HB HN HC HR HRR HT1
      go_wp2
      go_ret
      exact ⟨_, rfl, ⟨_, _, rfl, HR2.out⟩, HBW.out⟩
    · obtain ⟨m, rfl⟩ : ∃ m, j = m + 1 := ⟨j - 1, by omega⟩
      have hmn : m ≤ cs.length := by omega
      have hjv : ((m + 1 : Nat) : Int) - 1 = (m : Int) := by omega
      rw [hjv]
      have hblk : wr.heap[w.heap.size]? = _ := (HBl.out.block w.heap.size (by omega)).trans HT1.out
      obtain ⟨t0, t1, t2, t3, _, _, _, _⟩ := blk4 hblk
      obtain ⟨hbg, hbc⟩ := HB.out
      have hb0 : wr.cell? ⟨bg, m, none⟩ = some (.bool (f (cs.drop m))) := (HBW.out.cell (p := ⟨bg, m, none⟩) hbg).trans (hbc m hmn).1
      obtain ⟨ho0, ho1⟩ := HO.out.2 m hmn
      rw [HO2.out m (by omega)] at ho0
      have hst : ∀ (b : Bool), fitT ⟨k, ch, n, rs⟩ f (cs.drop m) = b → ∀ W w2, W = w2.setCell ⟨w.heap.size + 1, m, none⟩ (.bool b) → BRow w2 (w.heap.size + 1) cs.length O → Below (w.heap.size + 1) (w.alloc (.cells #[.int .i64 (k : Nat), .int .i32 (ch : Nat), .bool n, .slice ra rs.length rcap] 33)) w2 → ∀ j, j = .int .i64 ((m : Int) - 1) → FitRel ⟨k, ch, n, rs⟩ f cs w (w.alloc (.cells #[.int .i64 (k : Nat), .int .i32 (ch : Nat), .bool n, .slice ra rs.length rcap] 33)) j W :=
        fun b hf W w2 hW hB2 hb2 j hj => fit_step hmn hB2 HO1.out HO2.out hb2 b hf W hW j hj (by rw [hsz1]; omega)
      have HST := Lib.hid hst
      have hno : ∀ (i : Nat), m + 1 ≤ i → i ≤ cs.length → wr.cell? ⟨w.heap.size + 1, i, none⟩ = some (.bool (fitT ⟨k, ch, n, rs⟩ f (cs.drop i))) := fun i h1 h2 => by rw [← HO1.out i h1 h2]; exact (HO.out.2 i h2).1
      have HNO := Lib.hid hno
      have hm0 : (0 : Int) ≤ (m : Int) := by omega
      have hml : (m : Int) < ((cs.length + 1 : Nat) : Int) := by omega
      have hml2 : (m : Int) < (cs.length : Int) + 1 := by omega
      clear hblk hst hno hjv hj0 hj hbc
      by_cases k0 : k = 0
      · subst k0
        by_cases hm : m < cs.length
        · obtain ⟨c, hcm⟩ : ∃ c, cs[m]? = some c := ⟨_, List.getElem?_eq_getElem hm⟩
          obtain ⟨ng, no, rfl, hng, hnc⟩ := HN.out.2.2 m c hcm
          have hn0 : wr.cell? ⟨ng, no + m, none⟩ = some (.int .i32 (c : Nat)) := (HBW.out.cell (p := ⟨ng, no + m, none⟩) hng).trans hnc
          have hdr : cs.drop m = c :: cs.drop (m + 1) := drop_cons_of hcm
          have hF : fitT ⟨0, ch, n, rs⟩ f (cs.drop m) = (f (cs.drop m) || (decide (c ≠ 47) && fitT ⟨0, ch, n, rs⟩ f (cs.drop (m + 1)))) := by rw [hdr, fitT_star rfl]
          have hnx := HNO.out (m + 1) (Nat.le_refl _) (by omega)
          have HF := Lib.hid hF
          have hmi : (m : Int) < (cs.length : Int) := by omega
          have hm1 : (m : Int) + 1 < (cs.length : Int) + 1 := by omega
          have hm2 : (0 : Int) ≤ (m : Int) + 1 := by omega
          have hm3 : (m : Int) + 1 < ((cs.length + 1 : Nat) : Int) := by omega
          have hm4 : ((m : Int) + 1).toNat = m + 1 := by omega
          clear hF hdr hcm hnc hng HNO HO1 HO2 HT1 HB HN HC HR HRR
          generalize f (cs.drop m) = b1 at *
          generalize fitT ⟨0, ch, n, rs⟩ f (cs.drop (m + 1)) = b2 at *
          cases b1 with
          | true =>
            go_wp2
            go_roundw
            case rel => exact HST.out true (by rw [HF.out]; rfl) _ _ rfl HO.out HBl.out _ (by go_num)
            case measure => simp [intOf]
          | false =>
            by_cases c47 : c = 47
            · subst c47
              go_wp2
              go_roundw
              case rel => exact HST.out false (by rw [HF.out]; rfl) _ _ rfl HO.out HBl.out _ (by go_num)
              case measure => simp [intOf]
            · have c47b : (((c : Nat) : Int) != 47) = true := by simp; omega
              have HF2 : Hid (fitT ⟨0, ch, n, rs⟩ f (cs.drop m) = b2) := Lib.hid (by rw [HF.out, decide_eq_true c47]; simp)
              clear HF c47
              cases b2
              all_goals
                go_wp2
                go_roundw
                case rel => exact HST.out _ HF2.out _ _ rfl HO.out HBl.out _ (by go_num)
                case measure => simp [intOf]
        · obtain rfl : m = cs.length := by omega
          have hF : fitT ⟨0, ch, n, rs⟩ f (cs.drop cs.length) = f (cs.drop cs.length) := by rw [List.drop_length, fitT_end]; rfl
          have HF := Lib.hid hF
          clear hF HNO HO1 HO2 HT1 HB HN HC HR HRR hm
          generalize f (cs.drop cs.length) = b1 at *
          cases b1
          all_goals
            go_wp2
            go_roundw
            case rel => exact HST.out _ HF.out _ _ rfl HO.out HBl.out _ (by go_num)
            case measure => simp [intOf]
      · have b0 : (((k : Nat) : Int) == 0) = false := by simp; omega
        by_cases hm : m < cs.length
        · obtain ⟨c, hcm⟩ : ∃ c, cs[m]? = some c := ⟨_, List.getElem?_eq_getElem hm⟩
          obtain ⟨ng, no, rfl, hng, hnc⟩ := HN.out.2.2 m c hcm
          have hn0 : wr.cell? ⟨ng, no + m, none⟩ = some (.int .i32 (c : Nat)) := (HBW.out.cell (p := ⟨ng, no + m, none⟩) hng).trans hnc
          have hdr : cs.drop m = c :: cs.drop (m + 1) := drop_cons_of hcm
          have HF : Hid (fitT ⟨k, ch, n, rs⟩ f (cs.drop m) = (adm ⟨k, ch, n, rs⟩ c && f (cs.drop (m + 1)))) := Lib.hid (by rw [hdr, fitT_one k0])
          have hb1 : wr.cell? ⟨bg, m + 1, none⟩ = some (.bool (f (cs.drop (m + 1)))) := (HBW.out.cell (p := ⟨bg, m + 1, none⟩) hbg).trans (HB.out.2 (m + 1) (by omega)).1
          have hbgw : bg < wr.heap.size := Nat.lt_of_lt_of_le hbg HBW.out.size
          have hogw : w.heap.size + 1 < wr.heap.size := HO.out.1
          have hmi : (m : Int) < (cs.length : Int) := by omega
          have hm1 : (m : Int) + 1 < (cs.length : Int) + 1 := by omega
          have hm2 : (0 : Int) ≤ (m : Int) + 1 := by omega
          have hm3 : (m : Int) + 1 < ((cs.length + 1 : Nat) : Int) := by omega
          have hm4 : ((m : Int) + 1).toNat = m + 1 := by omega
          have hwr : IntKind.i64.wrap ((m : Int) + 1) = (m : Int) + 1 := by rw [IntKind.wrap_i64]; omega
          have HCA := Lib.hid (fun W hW => admits_call lo ⟨k, ch, n, rs⟩ (.slice ra rs.length rcap) c W hW hk (HC.out c (List.mem_of_getElem? hcm)) hl HRR.out)
          have HRW : Hid (RgRd lo wr.drew (.slice ra rs.length rcap) rs) := Lib.hid (HR.out.below (below_drew HBW.out))
          clear hdr hcm hnc hng HNO HO1 HO2 HT1 HB HN HC HR HRR k0
          generalize adm ⟨k, ch, n, rs⟩ c = AD at *
          generalize f (cs.drop (m + 1)) = b2 at *
          cases AD with
          | false =>
            have HF2 : Hid (fitT ⟨k, ch, n, rs⟩ f (cs.drop m) = false) := Lib.hid (by rw [HF.out]; rfl)
            clear HF
            go_wp2_with fail
            first | go_region_with (go_at_call 24; refine (HCA.out _ HRW.out).mono ?_; rintro e w5 ⟨rfl, hb⟩; have hbo := below_src hb; have q1 := (hbo.cell (p := ⟨w.heap.size + 1, m, none⟩) hogw).trans ho0; have q2 := (World.frozen?_of_block (a := ⟨w.heap.size + 1, m, none⟩) (hbo.block _ hogw)).trans ho1; have q3 := (hbo.cell (p := ⟨bg, m + 1, none⟩) hbgw).trans hb1; have HBO := Lib.hid hbo; clear hbo hb) | fail
            all_goals
              go_wp2
              go_roundw
              case rel => exact HST.out _ HF2.out _ _ rfl (HO.out.kept HBO.out) (HBl.out.trans (HBO.out.mono (by omega))) _ (by go_num)
              case measure => simp [intOf]
          | true =>
            have HF2 : Hid (fitT ⟨k, ch, n, rs⟩ f (cs.drop m) = b2) := Lib.hid (by rw [HF.out]; simp)
            clear HF
            cases b2
            all_goals
              go_wp2_with fail
              first | go_region_with (go_at_call 24; refine (HCA.out _ HRW.out).mono ?_; rintro e w5 ⟨rfl, hb⟩; have hbo := below_src hb; have q1 := (hbo.cell (p := ⟨w.heap.size + 1, m, none⟩) hogw).trans ho0; have q2 := (World.frozen?_of_block (a := ⟨w.heap.size + 1, m, none⟩) (hbo.block _ hogw)).trans ho1; have q3 := (hbo.cell (p := ⟨bg, m + 1, none⟩) hbgw).trans hb1; have HBO := Lib.hid hbo; clear hbo hb) | fail
              all_goals
                go_wp2
                go_roundw
                case rel => exact HST.out _ HF2.out _ _ rfl (HO.out.kept HBO.out) (HBl.out.trans (HBO.out.mono (by omega))) _ (by go_num)
                case measure => simp [intOf]
        · obtain rfl : m = cs.length := by omega
          have HREL : Hid (∀ j, j = .int .i64 ((cs.length : Int) - 1) → FitRel ⟨k, ch, n, rs⟩ f cs w (w.alloc (.cells #[.int .i64 (k : Nat), .int .i32 (ch : Nat), .bool n, .slice ra rs.length rcap] 33)) j wr) := Lib.hid (fun j hj => ⟨cs.length, O, hj, by omega, HO.out, fun i h1 h2 => by
            obtain rfl : i = cs.length := by omega
            rw [HO2.out _ (by omega), List.drop_length, fitT_end, if_neg k0], fun i hi => HO2.out i (by omega), HBl.out⟩)
          clear HNO HO1 HO2 HT1 HB HN HC HR HRR hm HST HO HBl k0
          go_wp2
          go_roundw
          case rel => exact HREL.out _ (by go_num)
          case measure => simp [intOf]

end Go.Proofs.YtlfppmhkgfhecaaDoor

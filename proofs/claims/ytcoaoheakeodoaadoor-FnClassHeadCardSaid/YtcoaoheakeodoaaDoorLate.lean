/-
  Several texts in one (SoundC, Cuts, LawD, Admits, DecC, QuoteC, LawF, DrawG): contracts and plain laws. Conditions: none beyond those of each theorem.
-/
import Derived.Test.YtcoaoheakeodoaaDoorReadD
import Derived.Test.YtcoaoheakeodoaaDoorWfT
import Derived.Test.YtcoaoheakeodoaaDoorRunes
import Derived.Test.YtcoaoheakeodoaaDoorEnv
import Derived.Laws.OwnMore
import Derived.Test.YtcoaoheakeodoaaDoorLawT
import Derived.Test.YtcoaoheakeodoaaDoorTermR
import Derived.Test.YtcoaoheakeodoaaDoorGreedy
import Derived.Test.YtcoaoheakeodoaaDoorPlainS
import Derived.Test.YtcoaoheakeodoaaDoorDrawN
namespace Go.Proofs.YtcoaoheakeodoaaDoor
open Go.ChangeShapes Go.WideShapes Go.ChangeAt Go.RowKit

def ascB (l : Bs) : Bool := l.all fun b => decide (b.toNat < 128)
def AscRel (l : Bs) (w : World) (i : Value) (wr : World) : Prop := ∃ k : Nat, i = .int .i64 (k : Nat) ∧ k ≤ l.length ∧ ascB l = ascB (l.drop k) ∧ w = wr

theorem ascii_call (P : ByteArray) (l : Bs) (w : World) (hP : P.data.toList = l) (hl : l.length ≤ 100000000) :
    Calls Tryd.prog 59 #[.string P] w fun e w' => e = .returned (.bool (ascB l)) ∧ w = w' := by
  rw [str_eq hP]
  clear hP
  go_enter Tryd.func59, Tryd.ntmps59
  go_wp2
  go_loopw [3] (fun i wr => AscRel l w i wr) (fun i _ => l.length - (intOf i).toNat)
  case atStart => exact ⟨0, rfl, by omega, rfl, rfl⟩
  case round =>
    obtain ⟨k, rfl, hk, ha, rfl⟩ := hrel
    have HA := Lib.hid ha
    clear ha
    by_cases hkl : k < l.length
    · have HN : Hid (ascB l = (decide ((l[k]).toNat < 128) && ascB (l.drop (k + 1)))) := Lib.hid (by
        rw [HA.out, List.drop_eq_getElem_cons hkl]
        rfl)
      have hsz : k < (⟨l.toArray⟩ : ByteArray).size := hkl
      have HG : Hid ((⟨l.toArray⟩ : ByteArray)[k] = l[k]) := Lib.hid rfl
      clear HA
      by_cases hb : (l[k]).toNat < 128
      · have hb2 : ¬ (128 : Int) ≤ ((((⟨l.toArray⟩ : ByteArray)[k]).toNat : Nat) : Int) := by rw [HG.out]; omega
        have HF : Hid (ascB l = ascB (l.drop (k + 1))) := Lib.hid (by rw [HN.out, decide_eq_true hb, Bool.true_and])
        clear HN hb HG
        go_wp2
        go_roundw
        case rel => exact ⟨k + 1, by go_num, by omega, HF.out, rfl⟩
        case measure => simp [intOf]; omega
      · have hb2 : (128 : Int) ≤ ((((⟨l.toArray⟩ : ByteArray)[k]).toNat : Nat) : Int) := by rw [HG.out]; omega
        have HF : Hid (ascB l = false) := Lib.hid (by rw [HN.out, decide_eq_false hb, Bool.false_and])
        clear HN hb HG
        go_wp2
        go_ret
        exact ⟨by rw [HF.out]; rfl, rfl⟩
    · have HF : Hid (ascB l = true) := Lib.hid (by rw [HA.out, List.drop_eq_nil_of_le (by omega)]; rfl)
      clear HA
      go_wp2
      go_ret
      exact ⟨by rw [HF.out]; rfl, rfl⟩

def starN (ts : List Tm) : Nat := (ts.filter fun t => decide (t.kind = 0)).length
theorem starN_le (ts : List Tm) : starN ts ≤ ts.length := List.length_filter_le _ _
theorem starN_snoc (ts : List Tm) (t : Tm) : starN (ts ++ [t]) = starN ts + if t.kind = 0 then 1 else 0 := by
  unfold starN
  rw [List.filter_append, List.length_append]
  by_cases h : t.kind = 0 <;> simp [h]
def CountRel (f : List Tm → Nat) (ts : List Tm) (w : World) (n i : Value) (wr : World) : Prop := ∃ k : Nat, i = .int .i64 (k : Nat) ∧ k ≤ ts.length ∧ n = .int .i64 (f (ts.take k) : Nat) ∧ ∃ q, wr = w.drewN q


def openAt (ts : List Tm) (k : Nat) : Bool := openStar (ts.drop k)
theorem open_step {ts : List Tm} {k : Nat} {a b : Tm} (ha : ts[k]? = some a) (hb : ts[k + 1]? = some b) : openAt ts k = ((decide (a.kind = 0) && (decide (b.kind = 1) || decide (b.kind = 2))) || openAt ts (k + 1)) := by
  obtain ⟨h1, e1⟩ := List.getElem?_eq_some_iff.1 ha
  obtain ⟨h2, e2⟩ := List.getElem?_eq_some_iff.1 hb
  unfold openAt
  rw [List.drop_eq_getElem_cons h1, List.drop_eq_getElem_cons h2, e1, e2]
  rfl
theorem open_end {ts : List Tm} {k : Nat} (h : ts.length ≤ k + 1) : openAt ts k = false := by
  unfold openAt
  have : (ts.drop k).length ≤ 1 := by rw [List.length_drop]; omega
  generalize ts.drop k = l at this
  cases l with
  | nil => rfl
  | cons a l =>
    cases l with
    | nil => rfl
    | cons b l => simp at this
def OpenRel (ts : List Tm) (w : World) (i : Value) (wr : World) : Prop := ∃ k : Nat, i = .int .i64 ((k + 1 : Nat) : Int) ∧ (k + 1 ≤ ts.length ∨ k = 0) ∧ openStar ts = openAt ts k ∧ ∃ q, wr = w.drewN q

set_option maxHeartbeats 1000000 in
theorem openStar_call (lo : Nat) (v : Value) (ts : List Tm) (w : World) (h : TmsRd lo w v ts) (hl : ts.length ≤ 100000000) (hk : ∀ t ∈ ts, t.kind ≤ 100) :
    Calls Tryd.prog 60 #[v] w fun e w' => e = .returned (.bool (openStar ts)) ∧ Below w.heap.size w w' := by
  obtain ⟨a, cap, rfl, hcap, hcells⟩ := h
  have HC := Lib.hid hcells
  have HK := Lib.hid hk
  clear hcells hk
  go_enter Tryd.func60, Tryd.ntmps60
  go_wp2
  go_loopw [3] (fun i wr => OpenRel ts w i wr) (fun i _ => ts.length + 1 - (intOf i).toNat)
  case atStart => exact ⟨0, rfl, .inr rfl, rfl, 0, rfl⟩
  case round =>
    obtain ⟨k, rfl, hkl, ho, q, rfl⟩ := hrel
    have HO := Lib.hid ho
    clear ho
    have ek : ((k + 1 : Nat) : Int) = (k : Int) + 1 := by omega
    rw [ek]
    clear ek
    by_cases hlt : k + 1 < ts.length
    · obtain ⟨x, hx⟩ : ∃ t, ts[k]? = some t := ⟨_, List.getElem?_eq_getElem (by omega)⟩
      obtain ⟨y, hy⟩ : ∃ t, ts[k + 1]? = some t := ⟨_, List.getElem?_eq_getElem hlt⟩
      obtain ⟨g, o, rv, rfl, hlo, hltg, c0, _, _, _, _⟩ := HC.out k x hx
      obtain ⟨g', o', rv', e', _, _, d0, _, _, _, _⟩ := HC.out (k + 1) y hy
      injection e' with e'
      injection e' with e1 e2
      subst e1
      subst e2
      have hkx := HK.out x (List.mem_of_getElem? hx)
      have hky := HK.out y (List.mem_of_getElem? hy)
      have HS := Lib.hid (open_step hx hy)
      obtain ⟨xk, xc, xn, xrs⟩ := x
      obtain ⟨yk, yc, yn, yrs⟩ := y
      simp only at c0 d0 hkx hky
      clear HC HK hx hy
      have hi1 : (0 : Int) ≤ (k : Int) := by omega
      by_cases h0 : xk = 0
      · subst h0
        by_cases h12 : yk = 1 ∨ yk = 2
        · have HF : Hid (openStar ts = true) := Lib.hid (by
            rw [HO.out, HS.out]
            show ((true && (decide (yk = 1) || decide (yk = 2))) || _) = true
            rcases h12 with h | h <;> subst h <;> rfl)
          clear HS HO
          rcases h12 with rfl | rfl
          all_goals
            go_wp2
            go_ret
            exact ⟨by rw [HF.out]; rfl, below_drewN (Below.refl _ w) q⟩
        · have b1 : (((yk : Nat) : Int) == 1) = false := by simp; omega
          have b2 : (((yk : Nat) : Int) == 2) = false := by simp; omega
          have HF : Hid (openStar ts = openAt ts (k + 1)) := Lib.hid (by
            rw [HO.out, HS.out]
            show ((true && (decide (yk = 1) || decide (yk = 2))) || _) = _
            rw [decide_eq_false (fun h => h12 (.inl h)), decide_eq_false (fun h => h12 (.inr h))]
            rfl)
          clear HS HO h12
          go_wp2
          go_roundw
          case rel => exact ⟨k + 1, by go_num, .inl (by omega), HF.out, q, rfl⟩
          case measure => simp [intOf]; omega
      · have b0 : (((xk : Nat) : Int) == 0) = false := by simp; omega
        have HF : Hid (openStar ts = openAt ts (k + 1)) := Lib.hid (by
          rw [HO.out, HS.out]
          show ((decide (xk = 0) && _) || _) = _
          rw [decide_eq_false h0]
          rfl)
        clear HS HO h0
        go_wp2
        go_roundw
        case rel => exact ⟨k + 1, by go_num, .inl (by omega), HF.out, q, rfl⟩
        case measure => simp [intOf]; omega
    · have HF : Hid (openStar ts = false) := Lib.hid (by rw [HO.out, open_end (by omega)])
      have hlt2 : ¬ ((k : Int) + 1 < (ts.length : Int)) := by omega
      clear HC HK HO
      go_wp2
      go_ret
      exact ⟨by rw [HF.out]; rfl, below_drewN (Below.refl _ w) q⟩

/-- spec.Sound. -/
def soundB (p n : Bs) : Bool := wfB p && (Lib.validD n && (ascB n || !(match readR (runes p) with | .good ts => openStar ts | .bad _ => false)))

set_option maxHeartbeats 1000000 in
theorem soundCB (ae : Addr) (P N : ByteArray) (p n : Bs) (w : World) (hE : Env ae w) (hP : P.data.toList = p) (hN : N.data.toList = n) (hp : p.length ≤ 100000000) (hn : n.length ≤ 100000000) :
    Calls Tryd.prog 38 #[.string P, .string N] w fun e w' => e = .returned (.bool (soundB p n)) ∧ Below w.heap.size w w' := by
  have HE := Lib.hid hE
  have HP := Lib.hid hP
  have HN := Lib.hid hN
  have hfd := fld0
  clear hE hP hN
  go_enter Tryd.func38, Tryd.ntmps38
  go_wp2_with fail
  refine (wellFormedB ae P p w HE.out HP.out hp).mono ?_
  rintro e w1 ⟨rfl, hb⟩
  have HE1 := Lib.hid (HE.out.on hb)
  have HB1 := Lib.hid hb
  clear hb HE
  generalize hW : wfB p = W
  have HW := Lib.hid hW
  clear hW
  cases W with
  | false =>
    have HF : Hid (soundB p n = false) := Lib.hid (by unfold soundB; rw [HW.out]; rfl)
    clear HW
    go_wp2
    go_ret
    exact ⟨by rw [HF.out]; rfl, HB1.out⟩
  | true =>
    go_wp2_with fail
    refine (validStr ae N n w1 HE1.out HN.out hn).mono ?_
    rintro e w2 ⟨rfl, hb⟩
    have HE2 := Lib.hid (HE1.out.on hb)
    have HB2 := Lib.hid (HB1.out.trans (hb.mono HB1.out.size))
    clear hb HE1 HB1
    generalize hV : Lib.validD n = V
    have HV := Lib.hid hV
    clear hV
    cases V with
    | false =>
      have HF : Hid (soundB p n = false) := Lib.hid (by unfold soundB; rw [HW.out, HV.out]; rfl)
      clear HW HV
      go_wp2
      go_ret
      exact ⟨by rw [HF.out]; rfl, HB2.out⟩
    | true =>
      go_wp2_with fail
      refine (ascii_call N n w2 HN.out hn).mono ?_
      rintro e w' ⟨rfl, rfl⟩
      generalize hA : ascB n = A
      have HA := Lib.hid hA
      clear hA
      cases A with
      | true =>
        have HF : Hid (soundB p n = true) := Lib.hid (by unfold soundB; rw [HW.out, HV.out, HA.out]; rfl)
        clear HW HV HA
        go_wp2
        go_ret
        exact ⟨by rw [HF.out]; rfl, HB2.out⟩
      | false =>
        obtain ⟨ts, hrd, _, hgood, _, _⟩ := wf_terms HW.out
        have hwt := read_weight' p ts hrd
        have hwl := weight_len ts
        have HG : Hid (∀ t ∈ ts, t.kind ≤ 100) := Lib.hid (fun t ht => (good_ok (hgood t ht)).1)
        have HRD := Lib.hid hrd
        have HF : Hid (soundB p n = !openStar ts) := Lib.hid (by unfold soundB; rw [HW.out, HV.out, HA.out, hrd]; rfl)
        clear HW HV HA hrd hgood
        go_wp2_with fail
        refine (readB P p w2 HP.out hp).mono ?_
        rintro e w3 ⟨hb, va, vn, vc, rfl, hts⟩
        obtain ⟨rfl, htm⟩ := hts ts HRD.out
        have HT := Lib.hid htm
        have HB3 := Lib.hid (HB2.out.trans (hb.mono HB2.out.size))
        generalize rdOk p = OK
        generalize rdSet p = ST
        clear hb HE2 HB2 HRD hts htm
        go_wp2_with fail
        refine (openStar_call _ _ ts w3 HT.out (by omega) HG.out).mono ?_
        rintro e w4 ⟨rfl, hb⟩
        have HB4 := Lib.hid (HB3.out.trans (hb.mono HB3.out.size))
        generalize openStar ts = O at *
        clear hb HB3 HT HG
        cases O
        all_goals
          go_wp2
          go_ret
          exact ⟨by rw [HF.out]; rfl, HB4.out⟩

end Go.Proofs.YtcoaoheakeodoaaDoor

namespace Go.Proofs.YtcoaoheakeodoaaDoor
open Go.ChangeShapes Go.WideShapes Go.ChangeAt Go.RowKit

/-- The ends of the characters of a text that begins at a place. -/
def cutsF : Nat → Nat → Bs → List Nat
  | 0, _, _ => []
  | f + 1, pos, l => if l = [] then [] else (pos + (dec l).2) :: cutsF f (pos + (dec l).2) (l.drop (dec l).2)
theorem cutsF_fuel : ∀ (f g pos : Nat) (l : Bs), l.length ≤ f → l.length ≤ g → cutsF f pos l = cutsF g pos l
  | 0, 0, _, _, _, _ => rfl
  | 0, g + 1, _, l, h, _ => by
    have : l = [] := List.length_eq_zero_iff.1 (by omega)
    subst this
    rfl
  | f + 1, 0, _, l, _, h => by
    have : l = [] := List.length_eq_zero_iff.1 (by omega)
    subst this
    rfl
  | f + 1, g + 1, pos, l, hf, hg => by
    unfold cutsF
    by_cases h0 : l = []
    · rw [if_pos h0, if_pos h0]
    · have h1 := dec_ge h0
      have h2 := List.length_pos_iff.2 h0
      rw [if_neg h0, if_neg h0, cutsF_fuel f g _ _ (by rw [List.length_drop]; omega) (by rw [List.length_drop]; omega)]
def cutsB (pos : Nat) (l : Bs) : List Nat := cutsF l.length pos l
theorem cutsB_nil (pos : Nat) : cutsB pos [] = [] := rfl
theorem cutsB_ne (pos : Nat) (l : Bs) (h : l ≠ []) : cutsB pos l = (pos + (dec l).2) :: cutsB (pos + (dec l).2) (l.drop (dec l).2) := by
  have h1 := dec_ge h
  have h2 := List.length_pos_iff.2 h
  unfold cutsB
  obtain ⟨n, hn⟩ : ∃ n, l.length = n + 1 := ⟨l.length - 1, by omega⟩
  conv => lhs; rw [hn]; unfold cutsF
  rw [if_neg h, cutsF_fuel n _ _ _ (by rw [List.length_drop]; omega) (Nat.le_refl _)]
/-- laws.cuts. -/
def cutsL (l : Bs) : List Nat := 0 :: cutsB 0 l
theorem cutsB_len : ∀ (n pos : Nat) (l : Bs), l.length ≤ n → (cutsB pos l).length = (runes l).length
  | 0, pos, l, h => by
    have : l = [] := List.length_eq_zero_iff.1 (by omega)
    subst this
    rfl
  | n + 1, pos, l, h => by
    by_cases h0 : l = []
    · subst h0; rfl
    · have h1 := dec_ge h0
      have h2 := List.length_pos_iff.2 h0
      rw [cutsB_ne pos l h0, runes_ne l h0, List.length_cons, List.length_cons, cutsB_len n _ _ (by rw [List.length_drop]; omega)]
theorem cutsL_len (l : Bs) : (cutsL l).length = (runes l).length + 1 := by
  unfold cutsL
  rw [List.length_cons, cutsB_len _ _ l (Nat.le_refl _)]

/-- Integers that are read. -/
def IntsRd (w : World) (v : Value) (cs : List Nat) : Prop := ∃ g cap, v = .slice (some ⟨g, 0, none⟩) cs.length cap ∧ cs.length ≤ cap ∧ cap ≤ maxLen ∧ g < w.heap.size ∧ ∀ (j c : Nat), cs[j]? = some c → w.cell? ⟨g, j, none⟩ = some (.int .i64 (c : Nat))
theorem IntsRd.below {w w' : World} {v : Value} {cs : List Nat} (h : IntsRd w v cs) (hb : Below w.heap.size w w') : IntsRd w' v cs := by
  obtain ⟨g, cap, e, h1, h2, h3, h4⟩ := h
  exact ⟨g, cap, e, h1, h2, Nat.lt_of_lt_of_le h3 hb.size, fun j c hj => (hb.cell (p := ⟨g, j, none⟩) h3).trans (h4 j c hj)⟩

theorem infoI : (Tryd.prog.info? 3).map (fun i => (i.zero, i.size, i.bytes)) = some (some (.int .i64 0), 1, 8) := by kernel_rfl

def CutsRel (l : Bs) (w : World) (out i : Value) (wr : World) : Prop :=
  ∃ (pos : Nat) (cs : List Nat), i = .int .i64 (pos : Nat) ∧ pos ≤ l.length ∧ cs.length ≤ pos + 1 ∧ 1 ≤ cs.length ∧ wr.ownsRow w.heap.size 3 1 out cs.length (cs.map fun c => Value.int .i64 (c : Nat)) ∧ cutsL l = cs ++ cutsB pos (l.drop pos) ∧ Below w.heap.size w wr

theorem IntsRd.of {w : World} {b : Nat} {v : Value} {cs : List Nat} (h : w.ownsRow b 3 1 v cs.length (cs.map fun c => Value.int .i64 (c : Nat))) (h1 : 1 ≤ cs.length) : IntsRd w v cs := by
  have hlt := h.lt
  have hcell := fun g hg => World.ownsRow.cells (g := g) h hg
  obtain ⟨_, h3 | ⟨g, cap, cur, e1, e2, e3, e4, e5, e6, e7⟩⟩ := h
  · have := h3.2; omega
  · subst e1
    refine ⟨g, cap, rfl, e4, e5, (hlt g rfl).2, fun j c hj => ?_⟩
    have := hcell g rfl j (.int .i64 (c : Nat)) (by rw [List.getElem?_map, hj]; rfl)
    have e : (⟨g, 0, none⟩ : Addr).add j = ⟨g, j, none⟩ := by unfold Addr.add; split <;> simp_all
    rw [e] at this
    exact this

theorem decB (P : ByteArray) (l : Bs) (w : World) (hT : Lib.Utf8Tabs 1 2 w) (hP : P.data.toList = l) :
    Calls Tryd.prog 32 #[.string P] w fun e w' => e = .returned (.tuple #[.int .i32 ((dec l).1 : Nat), .int .i64 ((dec l).2 : Nat)]) ∧ Below w.heap.size w w' := by
  rw [str_eq hP]
  exact decodeL_call l w hT

set_option maxHeartbeats 1000000 in
theorem cuts_call (ae : Addr) (l : Bs) (w : World) (hE : Env ae w) (hl : l.length ≤ 100000000) :
    Calls Tryd.prog 13 #[S l] w fun e w' => ∃ v, e = .returned v ∧ IntsRd w' v (cutsL l) ∧ Below w.heap.size w w' := by
  obtain ⟨i0, hi, hz0, hz1, hz2⟩ := info_parts infoI
  have HE := Lib.hid hE
  have hsz : (⟨l.toArray⟩ : ByteArray).size = l.length := rfl
  have HS := Lib.hid hsz
  clear hE hsz
  go_enter Tryd.func13, Tryd.ntmps13
  go_wp2
  go_loopw [3, 4] (fun o i wr => CutsRel l w o i wr) (fun _ i _ => l.length - (intOf i).toNat)
  case atStart =>
    refine ⟨0, [0], rfl, by omega, by simp, by simp, ?_, ?_, (Below.refl _ w).alloc (Nat.le_refl _) _⟩
    · exact World.ownsRow_lit w #[.int .i64 0] 1 (Nat.le_refl _) (by unfold maxLen; omega) rfl
    · rfl
  case round =>
    obtain ⟨pos, cs, rfl, hpos, hcl, hc1, hown, hcut, hb⟩ := hrel
    have HO := Lib.hid hown
    have HC := Lib.hid hcut
    have HB := Lib.hid hb
    have hne2 : Hid (∀ q, u3.ownBlock = some q → w.heap.size ≤ q) := Lib.hid (fun q hq => (hown.lt q hq).1)
    obtain ⟨va, vc, hform⟩ : ∃ va vc, u3 = .slice va cs.length vc := by
      obtain ⟨g, cap, e, _⟩ := IntsRd.of hown hc1
      exact ⟨_, _, e⟩
    subst hform
    clear hown hcut hb
    by_cases hp : pos < l.length
    · have hne : l.drop pos ≠ [] := by intro e; have := congrArg List.length e; rw [List.length_drop, List.length_nil] at this; omega
      have hge := dec_ge hne
      have hle := dec_le (l.drop pos)
      rw [List.length_drop] at hle
      have HN : Hid (cutsL l = (cs ++ [pos + (dec (l.drop pos)).2]) ++ cutsB (pos + (dec (l.drop pos)).2) (l.drop (pos + (dec (l.drop pos)).2))) := Lib.hid (by
        rw [HC.out, cutsB_ne pos _ hne, List.drop_drop]
        simp)
      have hcall := Lib.hid (fun P hP => decB P (l.drop pos) wr (HE.out.from HE.out HB.out).1 hP)
      have hX : ∀ e, e = l.length → ((⟨l.toArray⟩ : ByteArray).extract pos e).data.toList = l.drop pos := by
        rintro e rfl
        rw [ByteArray.data_extract, Array.toList_extract]
        show ((l.drop pos).take (l.length - pos)) = l.drop pos
        rw [List.take_of_length_le (by rw [List.length_drop]; omega)]
      have HX := Lib.hid hX
      clear hX
      clear HC hne
      generalize (dec (l.drop pos)).1 = R at *
      generalize (dec (l.drop pos)).2 = K at *
      go_wp2_with fail
      refine (hcall.out _ (HX.out _ (by rfl))).mono ?_
      rintro e w2 ⟨rfl, hb2⟩
      have HB2 := Lib.hid (HB.out.trans (hb2.mono HB.out.size))
      have HO2 : Hid (w2.ownsRow w.heap.size 3 1 (.slice va cs.length vc) cs.length (cs.map fun c => Value.int .i64 (c : Nat))) := Lib.hid (World.ownsRow.kept HO.out (row := none) ⟨hb2.os, hb2.tape, hb2.output, hb2.size, fun q hq _ => hb2.block q hq⟩ (by cases va with | none => exact .inl rfl | some x => exact .inr (by intro e; cases e)))
      have hs2 : w.heap.size ≤ w2.heap.size := HB2.out.size
      clear hb2 hcall HB HO
      go_wp2_with (at_builtin; refine wpList_append_own _ rfl _ _ 37 rfl w.heap.size 3 i0 (.int .i64 0) 1 8 Tryd.underlying37 hi hz0 hz1 hz2 rfl (by decide) _ _ _ rfl (HO2.out.alloc _) ⟨w2.heap.size, 0, none⟩ 1 1 [.int .i64 ((pos : Nat) + (K : Nat))] rfl rfl ?c1 ?c2 ?c3 ?c4 ?c5 ?_)
      case c1 => exact cell_one_new _ _ _
      case c2 => intro u hu; simp at hu; subst hu; rfl
      case c3 => unfold maxLen; omega
      case c4 => omega
      case c5 => simp; omega
      · intro v' w4 hown' hgrow hnn
        have HO4 : Hid (w4.ownsRow w.heap.size 3 1 v' (cs ++ [pos + K]).length ((cs ++ [pos + K]).map fun c => Value.int .i64 (c : Nat))) := Lib.hid (by
          rw [List.map_append, List.length_append]
          have e : (List.map (fun c => Value.int IntKind.i64 (c : Nat)) [pos + K]) = [.int .i64 ((pos : Nat) + (K : Nat))] := by simp
          rw [e]
          exact hown')
        have HB4 := Lib.hid ((HB2.out.alloc HB2.out.size _).grown hgrow (by simp; omega) (fun q hq => hne2.out q hq))
        clear hown' hgrow hnn HO2 HB2
        go_wp2
        go_roundw
        case rel => exact ⟨pos + K, cs ++ [pos + K], by go_num, by omega, by simp; omega, by simp, HO4.out, HN.out, HB4.out⟩
        case measure => simp [intOf]; omega
    · obtain rfl : pos = l.length := by omega
      go_wp2
      go_ret
      refine ⟨_, rfl, ?_, HB.out⟩
      have : cutsL l = cs := by rw [HC.out, List.drop_eq_nil_of_le (Nat.le_refl _), cutsB_nil, List.append_nil]
      rw [this]
      exact IntsRd.of HO.out hc1

end Go.Proofs.YtcoaoheakeodoaaDoor

namespace Go.Proofs.YtcoaoheakeodoaaDoor
open Go Go.Lib

theorem asc_runes : ∀ (l : Bs), ascB l = true → runes l = l.map UInt8.toNat ∧ asc (runes l)
  | [], _ => ⟨rfl, by simp [asc, runes_nil]⟩
  | b :: l, h => by
    unfold ascB at h
    rw [List.all_cons, Bool.and_eq_true] at h
    have hb : b.toNat < 128 := of_decide_eq_true h.1
    obtain ⟨i1, i2⟩ := asc_runes l h.2
    rw [runes_ascii b l hb]
    exact ⟨by rw [i1]; rfl, fun c hc => by
      rcases List.mem_cons.1 hc with rfl | hc
      · exact hb
      · exact i2 c hc⟩

/-- What is known of a sound pair. -/
theorem sound_gm {p n : Bs} (h : soundB p n = true) : ∃ ts, readR (runes p) = .good ts ∧ parse false p = some (exs ts) ∧ (∀ t ∈ ts, goodTm t) ∧ validD n = true ∧ bb p = false ∧ (asc (runes n) ∨ openStar ts = false) ∧ mm p n = gmR ts (runes n) := by
  unfold soundB at h
  rw [Bool.and_eq_true, Bool.and_eq_true] at h
  obtain ⟨hw, hv, ho⟩ := h
  obtain ⟨ts, hr, hp, hg, _, hb⟩ := wf_terms hw
  rw [hr] at ho
  have ho' : asc (runes n) ∨ openStar ts = false := by
    rw [Bool.or_eq_true] at ho
    rcases ho with h | h
    · exact .inl (asc_runes n h).2
    · exact .inr (by simpa using h)
  obtain ⟨s1, s2⟩ := valid_runes _ n (Nat.le_refl _) hv
  refine ⟨ts, hr, hp, hg, hv, hb, ho', ?_⟩
  rw [mm_of hp]
  have := gm_sound ts (runes n) hg s1 ho'
  rw [s2] at this
  exact this

/-- FnMatchSound. -/
theorem law_matchSound {p n : Bs} (h : soundB p n = true) (hm : mm p n = true) : ∀ ts, readR (runes p) = .good ts → mtr ts (runes n) = true := by
  obtain ⟨ts, hr, _, _, _, _, _, e⟩ := sound_gm h
  intro us hu
  rw [hr] at hu
  injection hu with hu
  subst hu
  rw [e] at hm
  exact gmR_mtr ts (runes n) hm

theorem starN_cons (t : Tm) (ts : List Tm) : starN (t :: ts) = (if t.kind = 0 then 1 else 0) + starN ts := by
  unfold starN
  by_cases h : t.kind = 0
  · simp [h]; omega
  · simp [h]
theorem mtr_len : ∀ (ts : List Tm) (s : List Nat), mtr ts s = true → ts.length ≤ s.length + starN ts ∧ (starN ts = 0 → s.length = ts.length)
  | [], s, h => by
    have : s = [] := by cases s with | nil => rfl | cons => cases h
    subst this
    simp
  | t :: ts, s, h => by
    unfold mtr at h
    rw [starN_cons]
    by_cases h0 : t.kind = 0
    · rw [if_pos h0] at h ⊢
      obtain ⟨pre, s', e, _, h'⟩ := (fitStar_iff (mtr ts) s).1 h
      obtain ⟨i1, i2⟩ := mtr_len ts s' h'
      rw [e, List.length_append, List.length_cons]
      exact ⟨by omega, by omega⟩
    · rw [if_neg h0] at h ⊢
      cases s with
      | nil => cases h
      | cons c s =>
        unfold fitOne at h
        rw [Bool.and_eq_true] at h
        obtain ⟨i1, i2⟩ := mtr_len ts s h.2
        simp only [List.length_cons]
        exact ⟨by omega, fun e => by rw [i2 (by omega)]⟩
/-- FnNameLength. -/
theorem law_nameLength {p n : Bs} (h : soundB p n = true) (hm : mm p n = true) : ∀ ts, readR (runes p) = .good ts → ts.length ≤ (runes n).length + starN ts ∧ (starN ts = 0 → (runes n).length = ts.length) := fun ts ht => mtr_len ts (runes n) (law_matchSound h hm ts ht)

/-! ### The empty name -/
theorem gmc_nil : ∀ (cs : List (Bool × List Tm)), gmc cs [] = cs.all fun x => x.2.isEmpty
  | [] => rfl
  | (b, c) :: cs => by
    unfold gmc
    rw [List.all_cons]
    cases c with
    | nil =>
      have : first b [] cs.isEmpty [] = some [] := first_hit b [] cs.isEmpty [] [] rfl (by simp)
      rw [this]
      simp only [List.isEmpty_nil, Bool.true_and]
      exact gmc_nil cs
    | cons t c =>
      have hs : steps (t :: c) (some []) = none := steps_none c
      have : first b (t :: c) cs.isEmpty [] = none := by unfold first; rw [hs]
      rw [this]
      rfl
theorem tsplit_st {t : Tm} (ts : List Tm) (h0 : t.kind = 0) : tsplit (t :: ts) = match tsplit ts with
      | (false, c) :: cs => (true, c) :: cs
      | (true, c) :: cs => (true, c) :: cs
      | [] => [(true, [])] := by
  conv => lhs; unfold tsplit
  rw [if_pos h0]
  rfl
theorem tsplit_empty : ∀ (ts : List Tm), ((tsplit ts).all fun x => x.2.isEmpty) = ts.all fun t => decide (t.kind = 0)
  | [] => rfl
  | t :: ts => by
    have ih := tsplit_empty ts
    rw [List.all_cons]
    by_cases h0 : t.kind = 0
    · rw [decide_eq_true h0, Bool.true_and, ← ih, tsplit_st ts h0]
      cases hs : tsplit ts with
      | nil => rfl
      | cons z cs =>
        obtain ⟨b, c⟩ := z
        cases b <;> rfl
    · rw [decide_eq_false h0, Bool.false_and, tsplit_ne ts h0]
      cases tsplit ts with
      | nil => rfl
      | cons z cs =>
        obtain ⟨b, c⟩ := z
        cases b <;> rfl
theorem gm_empty (ts : List Tm) : gm ts [] = ts.all fun t => decide (t.kind = 0) := by
  unfold gm
  rw [gmc_nil, tsplit_empty]
theorem exs_all (ts : List Tm) : ((exs ts).all fun t => decide (t.kind = 0)) = ts.all fun t => decide (t.kind = 0) := by
  induction ts with
  | nil => rfl
  | cons t ts ih =>
    rw [exs_cons, List.all_append, ih, List.all_cons]
    congr 1
    by_cases h0 : t.kind = 0
    · rw [ex_star t h0]
      simp
    · obtain ⟨h1, h2⟩ := ex_kind t h0
      rw [decide_eq_false h0]
      cases he : ex t with
      | nil => exact absurd he h1
      | cons x xs =>
        rw [List.all_cons, decide_eq_false (h2 x (by rw [he]; simp))]
        rfl
theorem starN_all (ts : List Tm) : (ts.all fun t => decide (t.kind = 0)) = decide (starN ts = ts.length) := by
  induction ts with
  | nil => rfl
  | cons t ts ih =>
    have hle := starN_le ts
    rw [List.all_cons, ih, starN_cons, List.length_cons]
    by_cases h0 : t.kind = 0
    · rw [decide_eq_true h0, if_pos h0, Bool.true_and]
      congr 1
      apply propext
      omega
    · rw [decide_eq_false h0, if_neg h0, Bool.false_and]
      symm
      apply decide_eq_false
      omega
/-- FnEmptyName. -/
theorem law_emptyName {p : Bs} {ts : List Tm} (hp : parse false p = some (exs ts)) : mm p [] = decide (starN ts = ts.length) := by
  rw [mm_of hp, gm_empty, exs_all, starN_all]


/-! ### Divisions of a name -/

theorem mtr_nil (s : List Nat) : mtr [] s = true ↔ s = [] := by simp [mtr]
theorem mtr_cons_star {t : Tm} (h : t.kind = 0) (ts : List Tm) (s : List Nat) : mtr (t :: ts) s = true ↔ ∃ pre s', s = pre ++ s' ∧ 47 ∉ pre ∧ mtr ts s' = true := by
  show (if t.kind = 0 then fitStar (mtr ts) s else fitOne t (mtr ts) s) = true ↔ _
  rw [if_pos h]
  exact fitStar_iff _ s
theorem mtr_cons_one {t : Tm} (h : t.kind ≠ 0) (ts : List Tm) (s : List Nat) : mtr (t :: ts) s = true ↔ ∃ c s', s = c :: s' ∧ adm t c = true ∧ mtr ts s' = true := by
  show (if t.kind = 0 then fitStar (mtr ts) s else fitOne t (mtr ts) s) = true ↔ _
  rw [if_neg h]
  cases s with
  | nil =>
    constructor
    · intro h; cases h
    · rintro ⟨_, _, h, _⟩; cases h
  | cons c s =>
    show (adm t c && mtr ts s) = true ↔ _
    rw [Bool.and_eq_true]
    constructor
    · rintro ⟨a, b⟩; exact ⟨c, s, rfl, a, b⟩
    · rintro ⟨d, r, e, a, b⟩
      injection e with e1 e2
      subst e1 e2
      exact ⟨a, b⟩
theorem mtr_append : ∀ (ts us : List Tm) (s : List Nat), mtr (ts ++ us) s = true ↔ ∃ a b, s = a ++ b ∧ mtr ts a = true ∧ mtr us b = true
  | [], us, s => by
    constructor
    · intro h; exact ⟨[], s, rfl, rfl, h⟩
    · rintro ⟨a, b, rfl, ha, hb⟩
      rw [mtr_nil] at ha
      subst ha
      exact hb
  | t :: ts, us, s => by
    by_cases h0 : t.kind = 0
    · rw [List.cons_append, mtr_cons_star h0]
      constructor
      · rintro ⟨pre, s', rfl, hp, hm⟩
        obtain ⟨a, b, rfl, ha, hb⟩ := (mtr_append ts us s').1 hm
        exact ⟨pre ++ a, b, by rw [List.append_assoc], (mtr_cons_star h0 ts _).2 ⟨pre, a, rfl, hp, ha⟩, hb⟩
      · rintro ⟨a, b, rfl, ha, hb⟩
        obtain ⟨pre, s', rfl, hp, hm⟩ := (mtr_cons_star h0 ts a).1 ha
        exact ⟨pre, s' ++ b, by rw [List.append_assoc], hp, (mtr_append ts us _).2 ⟨s', b, rfl, hm, hb⟩⟩
    · rw [List.cons_append, mtr_cons_one h0]
      constructor
      · rintro ⟨c, s', rfl, hp, hm⟩
        obtain ⟨a, b, rfl, ha, hb⟩ := (mtr_append ts us s').1 hm
        exact ⟨c :: a, b, rfl, (mtr_cons_one h0 ts _).2 ⟨c, a, rfl, hp, ha⟩, hb⟩
      · rintro ⟨a, b, rfl, ha, hb⟩
        obtain ⟨c, s', rfl, hp, hm⟩ := (mtr_cons_one h0 ts a).1 ha
        exact ⟨c, s' ++ b, rfl, hp, (mtr_append ts us _).2 ⟨s', b, rfl, hm, hb⟩⟩
theorem mtr_star (s : List Nat) : mtr [Tm.star] s = true ↔ 47 ∉ s := by
  rw [mtr_cons_star rfl]
  constructor
  · rintro ⟨pre, s', rfl, h, hn⟩
    rw [mtr_nil] at hn
    subst hn
    rw [List.append_nil]
    exact h
  · intro h
    exact ⟨s, [], (List.append_nil s).symm, h, rfl⟩
theorem mtr_any (s : List Nat) : mtr [Tm.any] s = true ↔ ∃ c, s = [c] ∧ c ≠ 47 := by
  rw [mtr_cons_one (by decide)]
  constructor
  · rintro ⟨c, s', rfl, h, hn⟩
    rw [mtr_nil] at hn
    subst hn
    exact ⟨c, rfl, by simpa [adm] using h⟩
  · rintro ⟨c, rfl, h⟩
    exact ⟨c, [], rfl, by simpa [adm] using h, rfl⟩
theorem mtr_chars : ∀ (cs s : List Nat), mtr (cs.map Tm.chr') s = true ↔ s = cs
  | [], s => mtr_nil s
  | c :: cs, s => by
    rw [List.map_cons, mtr_cons_one (by show 3 ≠ 0; decide)]
    constructor
    · rintro ⟨d, s', rfl, h, hm⟩
      rw [(mtr_chars cs s').1 hm]
      have : d = c := by simpa [adm] using h
      rw [this]
    · rintro rfl
      exact ⟨c, cs, rfl, by simp [adm], (mtr_chars cs cs).2 rfl⟩

/-! ### The terms of patterns that are put together -/

def Tms (p : Bs) (ts : List Tm) : Prop := wfB p = true ∧ readR (runes p) = .good ts
theorem tms_of {p : Bs} (h : wfB p = true) : ∃ ts, Tms p ts := by
  obtain ⟨ts, h1, _⟩ := wf_terms h
  exact ⟨ts, h, h1⟩
theorem Tms.all {p : Bs} {ts : List Tm} (h : Tms p ts) : parse false p = some (exs ts) ∧ (∀ t ∈ ts, goodTm t) ∧ validD p = true ∧ bb p = false := by
  obtain ⟨us, h1, h2⟩ := wf_terms h.1
  rw [h.2] at h1
  injection h1 with h1
  subst h1
  exact h2
theorem lits_back (l : Bs) : (lits l).map (fun t => UInt8.ofNat t.chr) = l := by
  unfold lits
  rw [List.map_map]
  conv => rhs; rw [← List.map_id l]
  exact List.map_congr_left fun b _ => by simp
theorem good_kind {t : Tm} (h : goodTm t) : t.kind ≤ 3 := by
  rcases h with ⟨h, _⟩ | ⟨h, _⟩ | ⟨h, _⟩ | ⟨h, _⟩ <;> omega
theorem ex_char {t : Tm} (h : t.kind = 3) : ex t = lits (enc t.chr) := by unfold ex; rw [if_pos h]
theorem ex_other {t : Tm} (h : t.kind ≠ 3) : ex t = [t] := by unfold ex; rw [if_neg h]
theorem ex_nil (t : Tm) : ex t ≠ [] := by
  by_cases h : t.kind = 3
  · rw [ex_char h]
    intro e
    exact enc_ne t.chr (List.map_eq_nil_iff.1 e)
  · rw [ex_other h]
    simp
theorem good_char {t : Tm} (h : goodTm t) (k : t.kind = 3) : t = Tm.chr' t.chr ∧ sc t.chr := by
  rcases h with ⟨h, _⟩ | ⟨h, _⟩ | ⟨h, _⟩ | ⟨_, h1, h2⟩
  · omega
  · omega
  · omega
  · exact ⟨h1, h2⟩
theorem lit_head {c : Nat} {X : List Tm} {u : Tm} {Y : List Tm} (h : lits (enc c) ++ X = u :: Y) : u.kind = 4 := by
  cases he : enc c with
  | nil => exact absurd he (enc_ne c)
  | cons b l =>
    rw [he] at h
    injection h with h _
    rw [← h]
theorem exs_inj : ∀ (a b : List Tm), (∀ t ∈ a, goodTm t) → (∀ t ∈ b, goodTm t) → exs a = exs b → a = b
  | [], [], _, _, _ => rfl
  | [], u :: us, _, _, h => by
    rw [exs_nil, exs_cons] at h
    exact absurd (List.append_eq_nil_iff.1 h.symm).1 (ex_nil u)
  | t :: ts, [], _, _, h => by
    rw [exs_nil, exs_cons] at h
    exact absurd (List.append_eq_nil_iff.1 h).1 (ex_nil t)
  | t :: ts, u :: us, ha, hb, h => by
    have gt := ha t (by simp)
    have gu := hb u (by simp)
    have ih := exs_inj ts us (fun x hx => ha x (by simp [hx])) (fun x hx => hb x (by simp [hx]))
    rw [exs_cons, exs_cons] at h
    have htu : t = u := by
      by_cases ht : t.kind = 3
      · obtain ⟨e1, s1⟩ := good_char gt ht
        rw [ex_char ht] at h
        by_cases hu : u.kind = 3
        · obtain ⟨e2, s2⟩ := good_char gu hu
          rw [ex_char hu] at h
          have h' := congrArg (List.map fun t => UInt8.ofNat t.chr) h
          rw [List.map_append, List.map_append, lits_back, lits_back] at h'
          have d1 := dec_enc s1 ((exs ts).map fun t => UInt8.ofNat t.chr)
          rw [h', dec_enc s2] at d1
          injection d1 with d1 _
          rw [e1, e2, d1]
        · rw [ex_other hu] at h
          have := lit_head h
          have := good_kind gu
          omega
      · rw [ex_other ht] at h
        by_cases hu : u.kind = 3
        · rw [ex_char hu] at h
          have := lit_head h.symm
          have := good_kind gt
          omega
        · rw [ex_other hu] at h
          injection h
    subst htu
    rw [ih (List.append_cancel_left h)]
theorem valid_app {p q : Bs} (hp : validD p = true) (hq : validD q = true) : validD (p ++ q) = true := by
  obtain ⟨a, ha, rfl⟩ := (valid_iff p).1 hp
  obtain ⟨b, hb, rfl⟩ := (valid_iff q).1 hq
  rw [← encs_append]
  exact valid_encs _ (scs_append.2 ⟨ha, hb⟩)
theorem runes_app {p q : Bs} (hp : validD p = true) (hq : validD q = true) : runes (p ++ q) = runes p ++ runes q := by
  obtain ⟨a, ha, rfl⟩ := (valid_iff p).1 hp
  obtain ⟨b, hb, rfl⟩ := (valid_iff q).1 hq
  rw [← encs_append, runes_encs _ (scs_append.2 ⟨ha, hb⟩), runes_encs _ ha, runes_encs _ hb]
theorem tms_parse {p : Bs} {ts : List Tm} (hv : validD p = true) (hg : ∀ t ∈ ts, goodTm t) (hp : parse false p = some (exs ts)) : Tms p ts := by
  have hb : bb p = false := bb_of hp
  have hw : wfB p = true := by
    unfold wfB
    have := bb_valid hv
    rw [hb] at this
    rw [hv, Bool.true_and]
    cases h : rdOk p with
    | true => rfl
    | false => rw [h] at this; cases this
  obtain ⟨us, h1, h2, h3, _⟩ := wf_terms hw
  rw [hp] at h2
  injection h2 with h2
  rw [exs_inj ts us hg h3 h2]
  exact ⟨hw, h1⟩
theorem Tms.app {p q : Bs} {ts us : List Tm} (h : Tms p ts) (k : Tms q us) : Tms (p ++ q) (ts ++ us) := by
  obtain ⟨h1, h2, h3, _⟩ := h.all
  obtain ⟨k1, k2, k3, _⟩ := k.all
  refine tms_parse (valid_app h3 k3) (fun t ht => ?_) (by rw [parse_app h1, k1, exs_append]; rfl)
  rcases List.mem_append.1 ht with ht | ht
  · exact h2 t ht
  · exact k2 t ht
theorem tms_star : Tms [42] [Tm.star] := tms_parse (valid_encs [42] (by intro c hc; simp at hc; subst hc; exact .inl (by decide))) (by intro t ht; simp at ht; subst ht; exact .inl ⟨rfl, rfl⟩) (by rfl)
theorem tms_any : Tms [63] [Tm.any] := tms_parse (valid_encs [63] (by intro c hc; simp at hc; subst hc; exact .inl (by decide))) (by intro t ht; simp at ht; subst ht; exact .inr (.inl ⟨rfl, rfl⟩)) (by rfl)
theorem exs_chars (cs : List Nat) : exs (cs.map Tm.chr') = lits (encs cs) := by
  induction cs with
  | nil => rfl
  | cons c cs ih =>
    rw [List.map_cons, exs_cons, ih, ex_char (by rfl), encs_cons]
    unfold lits
    rw [List.map_append]
theorem quoteW_encs (cs : List Nat) : quoteW cs = encs (cs.flatMap fun c => [92, c]) := by
  induction cs with
  | nil => rfl
  | cons c cs ih =>
    rw [List.flatMap_cons, encs_append, ← ih]
    show 92 :: enc c ++ quoteW cs = encs [92, c] ++ quoteW cs
    congr 1
    show 92 :: enc c = enc 92 ++ (enc c ++ [])
    rw [List.append_nil]
    rfl
theorem tms_quote {a : Bs} (ha : validD a = true) : Tms (quoteB a) ((runes a).map Tm.chr') := by
  obtain ⟨s1, s2⟩ := valid_runes _ a (Nat.le_refl _) ha
  refine tms_parse ?_ ?_ ?_
  · unfold quoteB
    rw [quoteW_encs]
    refine valid_encs _ fun c hc => ?_
    obtain ⟨d, hd, hc⟩ := List.mem_flatMap.1 hc
    simp only [List.mem_cons, List.not_mem_nil, or_false] at hc
    rcases hc with rfl | rfl
    · exact .inl (by decide)
    · exact s1 _ hd
  · intro t ht
    obtain ⟨c, hc, rfl⟩ := List.mem_map.1 ht
    exact .inr (.inr (.inr ⟨rfl, rfl, s1 c hc⟩))
  · have := parse_quoteB ha []
    rw [List.append_nil] at this
    rw [this, exs_chars, s2]
    show some (lits a ++ []) = _
    rw [List.append_nil]

/-! ### Decided pairs -/

def Dcd (ts : List Tm) (s : List Nat) : Prop := (asc s ∨ openStar ts = false) ∧ (slashClass ts = false ∨ 47 ∉ s ∨ starRuns false ts < 2)
/-- spec.Decided. -/
def decdB (p n : Bs) : Bool := soundB p n && (match readR (runes p) with | .good ts => !slashClass ts || (!n.contains 47 || decide (starRuns false ts < 2)) | .bad _ => false)
theorem dcd_mm {p n : Bs} {ts : List Tm} (h : Tms p ts) (hv : validD n = true) (hd : Dcd ts (runes n)) : mm p n = mtr ts (runes n) := by
  obtain ⟨s1, s2⟩ := valid_runes _ n (Nat.le_refl _) hv
  rw [mm_of h.all.1, ← gmR_decided ts _ h.all.2.1 hd.2]
  have := gm_sound ts (runes n) h.all.2.1 s1 hd.1
  rw [s2] at this
  exact this
theorem contains_runes {n : Bs} (hv : validD n = true) : n.contains 47 = (runes n).contains 47 := by
  obtain ⟨s1, s2⟩ := valid_runes _ n (Nat.le_refl _) hv
  have := encs_slash (runes n) s1
  rw [s2] at this
  exact this
theorem sound_open {p n : Bs} {ts : List Tm} (h : Tms p ts) (hs : soundB p n = true) : validD n = true ∧ (asc (runes n) ∨ openStar ts = false) := by
  obtain ⟨us, hr, _, _, hv, _, ho, _⟩ := sound_gm hs
  rw [h.2] at hr
  injection hr with hr
  subst hr
  exact ⟨hv, ho⟩
theorem decd_dcd {p n : Bs} {ts : List Tm} (h : Tms p ts) (hd : decdB p n = true) : validD n = true ∧ Dcd ts (runes n) := by
  unfold decdB at hd
  rw [Bool.and_eq_true, h.2] at hd
  obtain ⟨hs, hd⟩ := hd
  obtain ⟨hv, ho⟩ := sound_open h hs
  refine ⟨hv, ho, ?_⟩
  rw [contains_runes hv] at hd
  simp only [Bool.or_eq_true, Bool.not_eq_true', decide_eq_true_eq] at hd
  rcases hd with h | h | h
  · exact .inl h
  · exact .inr (.inl (by simpa using h))
  · exact .inr (.inr h)
theorem decd_wf {p n : Bs} (hd : decdB p n = true) : wfB p = true := by
  unfold decdB soundB at hd
  rw [Bool.and_eq_true, Bool.and_eq_true] at hd
  exact hd.1.1
theorem Dcd.to {ts us : List Tm} {s r : List Nat} (h : Dcd ts s) (ho : openStar ts = false → openStar us = false) (hc : slashClass ts = false → slashClass us = false) (hn : starRuns false us ≤ starRuns false ts) (hs : ∀ c ∈ r, c ∈ s) : Dcd us r := by
  obtain ⟨h1, h2⟩ := h
  refine ⟨?_, ?_⟩
  · rcases h1 with h | h
    · exact .inl fun c hr => h c (hs c hr)
    · exact .inr (ho h)
  · rcases h2 with h | h | h
    · exact .inl (hc h)
    · exact .inr (.inl fun hr => h (hs _ hr))
    · exact .inr (.inr (by omega))
theorem openStar_tail {t : Tm} {ts : List Tm} (h : openStar (t :: ts) = false) : openStar ts = false := by
  cases ts with
  | nil => rfl
  | cons b ts =>
    unfold openStar at h
    rw [Bool.or_eq_false_iff] at h
    exact h.2
theorem openStar_right : ∀ (ts us : List Tm), openStar (ts ++ us) = false → openStar us = false
  | [], _, h => h
  | _ :: ts, us, h => openStar_right ts us (openStar_tail h)
theorem openStar_left : ∀ (ts us : List Tm), openStar (ts ++ us) = false → openStar ts = false
  | [], _, _ => rfl
  | [_], _, _ => rfl
  | a :: b :: ts, us, h => by
    have h' : openStar (a :: b :: (ts ++ us)) = false := h
    unfold openStar at h' ⊢
    rw [Bool.or_eq_false_iff] at h' ⊢
    exact ⟨h'.1, openStar_left (b :: ts) us h'.2⟩
theorem slashClass_app (ts us : List Tm) : slashClass (ts ++ us) = (slashClass ts || slashClass us) := by unfold slashClass; rw [List.any_append]
theorem starRuns_left (us : List Tm) : ∀ (b : Bool) (ts : List Tm), starRuns b ts ≤ starRuns b (ts ++ us)
  | _, [] => by simp [starRuns]
  | b, t :: ts => by
    have := starRuns_left us (decide (t.kind = 0)) ts
    rw [List.cons_append]
    unfold starRuns
    omega
theorem starRuns_right (us : List Tm) : ∀ (ts : List Tm), starRuns false us ≤ starRuns false (ts ++ us) ∧ starRuns false us ≤ starRuns true (ts ++ us) + 1
  | [] => by
    refine ⟨Nat.le_refl _, ?_⟩
    cases us with
    | nil => simp [starRuns]
    | cons t us =>
      show starRuns false (t :: us) ≤ starRuns true (t :: us) + 1
      unfold starRuns
      split <;> simp <;> omega
  | t :: ts => by
    obtain ⟨i1, i2⟩ := starRuns_right us ts
    rw [List.cons_append]
    by_cases h : t.kind = 0
    · constructor <;> (conv => rhs; unfold starRuns) <;> simp [h] <;> omega
    · constructor <;> (conv => rhs; unfold starRuns) <;> simp [h] <;> omega
theorem Dcd.left {ts us : List Tm} {s r : List Nat} (h : Dcd (ts ++ us) s) (hs : ∀ c ∈ r, c ∈ s) : Dcd ts r :=
  h.to (openStar_left ts us) (fun e => by rw [slashClass_app, Bool.or_eq_false_iff] at e; exact e.1) (starRuns_left us false ts) hs
theorem Dcd.right {ts us : List Tm} {s r : List Nat} (h : Dcd (ts ++ us) s) (hs : ∀ c ∈ r, c ∈ s) : Dcd us r :=
  h.to (openStar_right ts us) (fun e => by rw [slashClass_app, Bool.or_eq_false_iff] at e; exact e.2) (starRuns_right us ts).1 hs
theorem Dcd.name {ts : List Tm} {s r : List Nat} (h : Dcd ts s) (hs : ∀ c ∈ r, c ∈ s) : Dcd ts r := h.to id id (Nat.le_refl _) hs

/-- FnStarEmpty. -/
theorem law_starEmpty {p q n : Bs} (hp : wfB p = true) (hq : wfB q = true) (hs : soundB (p ++ q) n = true) (hd : decdB (p ++ [42] ++ q) n = true) (hm : mm (p ++ q) n = true) : mm (p ++ [42] ++ q) n = true := by
  obtain ⟨ts, tp⟩ := tms_of hp
  obtain ⟨us, tq⟩ := tms_of hq
  have T := (tp.app tms_star).app tq
  obtain ⟨hv, D⟩ := decd_dcd T hd
  obtain ⟨a, b, e, h1, h2⟩ := (mtr_append ts us _).1 (law_matchSound hs hm _ (tp.app tq).2)
  rw [dcd_mm T hv D, mtr_append]
  refine ⟨a, b, e, ?_, h2⟩
  rw [mtr_append]
  exact ⟨a, [], (List.append_nil a).symm, h1, (mtr_star []).2 (by simp)⟩
/-- FnStarOne. -/
theorem law_starOne {p q n : Bs} (hp : wfB p = true) (hq : wfB q = true) (hs : soundB (p ++ [63] ++ q) n = true) (hd : decdB (p ++ [42] ++ q) n = true) (hm : mm (p ++ [63] ++ q) n = true) : mm (p ++ [42] ++ q) n = true := by
  obtain ⟨ts, tp⟩ := tms_of hp
  obtain ⟨us, tq⟩ := tms_of hq
  have T := (tp.app tms_star).app tq
  obtain ⟨hv, D⟩ := decd_dcd T hd
  obtain ⟨a, b, e, h1, h2⟩ := (mtr_append _ us _).1 (law_matchSound hs hm _ ((tp.app tms_any).app tq).2)
  obtain ⟨a1, a2, rfl, h3, h4⟩ := (mtr_append ts _ a).1 h1
  rw [dcd_mm T hv D, mtr_append]
  refine ⟨a1 ++ a2, b, e, ?_, h2⟩
  rw [mtr_append]
  refine ⟨a1, a2, rfl, h3, (mtr_star a2).2 ?_⟩
  obtain ⟨c, rfl, hc⟩ := (mtr_any a2).1 h4
  simpa using hc.symm

/-! ### The first character and the others -/
theorem valid_cons {b : UInt8} {n : Bs} (hv : validD (b :: n) = true) : runes (b :: n) = (dec (b :: n)).1 :: runes ((b :: n).drop (dec (b :: n)).2) ∧ validD ((b :: n).drop (dec (b :: n)).2) = true ∧ (b = 47 ↔ (dec (b :: n)).1 = 47) := by
  obtain ⟨s1, s2⟩ := valid_runes _ (b :: n) (Nat.le_refl _) hv
  have hr := runes_ne (b :: n) (by simp)
  refine ⟨hr, ?_, ?_⟩
  · rw [hr] at s1 s2
    rw [encs_cons] at s2
    have hd := dec_enc (scs_cons.1 s1).1 (encs (runes ((b :: n).drop (dec (b :: n)).2)))
    rw [s2] at hd
    have e := List.drop_left (l₁ := enc (dec (b :: n)).1) (l₂ := encs (runes ((b :: n).drop (dec (b :: n)).2)))
    rw [s2, ← show (dec (b :: n)).2 = (enc (dec (b :: n)).1).length from congrArg Prod.snd hd] at e
    rw [e]
    exact valid_encs _ (scs_cons.1 s1).2
  · have := head_encs (dec (b :: n)).1 (runes ((b :: n).drop (dec (b :: n)).2)) 47 (by decide)
    rw [← hr, s2] at this
    rw [← this]
    show b = 47 ↔ some b = some 47
    constructor
    · rintro rfl; rfl
    · intro h; injection h
/-- FnStarHead. -/
theorem law_starHead {p : Bs} (hp : wfB p = true) : (decdB ([42] ++ p) [] = true → mm ([42] ++ p) [] = mm p []) ∧ ∀ b n, decdB ([42] ++ p) (b :: n) = true → mm ([42] ++ p) (b :: n) = (mm p (b :: n) || (decide (b ≠ 47) && mm ([42] ++ p) ((b :: n).drop (dec (b :: n)).2))) := by
  obtain ⟨ts, tp⟩ := tms_of hp
  have T := tms_star.app tp
  refine ⟨fun hd => ?_, fun b n hd => ?_⟩
  · obtain ⟨hv, D⟩ := decd_dcd T hd
    rw [dcd_mm T hv D, dcd_mm tp hv (D.right fun c h => h)]
    show (if (Tm.star).kind = 0 then fitStar (mtr ts) [] else _) = _
    rw [if_pos rfl]
    rfl
  · obtain ⟨hv, D⟩ := decd_dcd T hd
    obtain ⟨v1, v2, v3⟩ := valid_cons hv
    rw [dcd_mm T hv D, dcd_mm tp hv (D.right fun c h => h), dcd_mm T v2 (D.name fun c h => by rw [v1]; exact List.mem_cons_of_mem _ h), v1]
    have : decide (b ≠ 47) = decide ((dec (b :: n)).1 ≠ 47) := by
      by_cases h : b = 47
      · rw [decide_eq_false (show ¬ b ≠ 47 from fun x => x h), decide_eq_false (show ¬ (dec (b :: n)).1 ≠ 47 from fun x => x (v3.1 h))]
      · rw [decide_eq_true (show b ≠ 47 from h), decide_eq_true (show (dec (b :: n)).1 ≠ 47 from fun e => h (v3.2 e))]
    rw [this]
    rfl
/-! ### Slashes -/
/-- spec.SlashTerms. -/
def slashN (ts : List Tm) : Nat := (ts.filter fun t => decide (t.kind = 3 ∧ t.chr = 47)).length
theorem slashN_le (ts : List Tm) : slashN ts ≤ ts.length := List.length_filter_le _ _
theorem slashN_snoc (ts : List Tm) (t : Tm) : slashN (ts ++ [t]) = slashN ts + if t.kind = 3 ∧ t.chr = 47 then 1 else 0 := by
  unfold slashN
  rw [List.filter_append, List.length_append]
  by_cases h : t.kind = 3 ∧ t.chr = 47 <;> simp [h]
/-- spec.NoSlash. -/
def noSlashT (ts : List Tm) : Bool := decide (slashN ts = 0) && !slashClass ts
theorem weight_at {ts : List Tm} {k : Nat} {t : Tm} (h : ts[k]? = some t) : t.rs.length ≤ weight ts := by
  have h1 := weight_append (ts.take k) (ts.drop k)
  rw [List.take_append_drop] at h1
  obtain ⟨hk, e⟩ := List.getElem?_eq_some_iff.1 h
  rw [List.drop_eq_getElem_cons hk, e, weight_cons] at h1
  omega
/-! ### How many slashes a name has -/
def cnt (t : Tm) : Nat := if t.kind = 4 ∧ t.chr = 47 then 1 else 0
def cnts (ts : List Tm) : Nat := (ts.map cnt).sum
def noSl (t : Tm) : Prop := t.kind = 2 → inR t.rs 47 = t.neg
theorem take_no_slash (b : UInt8) (s : Bs) (hb : b ≠ 47) : 47 ∉ (b :: s).take (dec (b :: s)).2 := by
  by_cases h : b.toNat < 128
  · rw [dec_ascii b s h]
    simpa using hb.symm
  · intro hm
    obtain ⟨k, hk, e⟩ := List.getElem_of_mem hm
    rw [List.length_take] at hk
    have hk2 : k < (dec (b :: s)).2 := by omega
    have hk3 : k < (b :: s).length := by omega
    have := (dec_high (l := s) (by omega : 128 ≤ b.toNat)).1 k hk2
    rw [List.getElem_take] at e
    rw [List.getD_eq_getElem?_getD, List.getElem?_eq_getElem hk3, e] at this
    exact absurd this (by decide)
theorem step_count {t : Tm} {s r : Bs} (h : step t s = some r) (hn : noSl t) : s.count 47 = cnt t + r.count 47 := by
  cases s with
  | nil => cases h
  | cons b s =>
    have cut : b ≠ 47 → (b :: s).count 47 = ((b :: s).drop (dec (b :: s)).2).count 47 := fun hb => by
      have h1 := List.take_append_drop (dec (b :: s)).2 (b :: s)
      have h2 := List.count_append (a := (47 : UInt8)) (l₁ := (b :: s).take (dec (b :: s)).2) (l₂ := (b :: s).drop (dec (b :: s)).2)
      rw [h1, List.count_eq_zero.2 (take_no_slash b s hb), Nat.zero_add] at h2
      exact h2
    unfold step at h
    simp only at h
    by_cases k1 : t.kind = 1
    · have c0 : cnt t = 0 := by unfold cnt; rw [if_neg (by omega)]
      rw [if_pos k1] at h
      by_cases hb : b = 47
      · rw [if_pos hb] at h; cases h
      · rw [if_neg hb] at h
        injection h with h
        rw [c0, Nat.zero_add, ← h]
        exact cut hb
    · rw [if_neg k1] at h
      by_cases k2 : t.kind = 2
      · have c0 : cnt t = 0 := by unfold cnt; rw [if_neg (by omega)]
        rw [if_pos k2] at h
        by_cases hr : inR t.rs (dec (b :: s)).1 = t.neg
        · rw [if_pos hr] at h; cases h
        · rw [if_neg hr] at h
          injection h with h
          have hb : b ≠ 47 := by
            rintro rfl
            rw [dec_slash] at hr
            exact hr (hn k2)
          rw [c0, Nat.zero_add, ← h]
          exact cut hb
      · rw [if_neg k2] at h
        by_cases k4 : t.kind = 4
        · rw [if_pos k4] at h
          by_cases hc : b.toNat = t.chr
          · rw [if_pos hc] at h
            injection h with h
            subst h
            by_cases hb : b = 47
            · subst hb
              have cv : cnt t = 1 := by unfold cnt; rw [if_pos ⟨k4, by rw [← hc]; rfl⟩]
              rw [cv, List.count_cons_self]
              omega
            · have cv : cnt t = 0 := by unfold cnt; rw [if_neg (fun x => hb (UInt8.toNat_inj.1 (by rw [hc, x.2]; rfl)))]
              rw [cv, List.count_cons_of_ne hb]
              omega
          · rw [if_neg hc] at h; cases h
        · rw [if_neg k4] at h; cases h
theorem cnts_cons (t : Tm) (ts : List Tm) : cnts (t :: ts) = cnt t + cnts ts := by simp [cnts]
theorem cnts_append (a b : List Tm) : cnts (a ++ b) = cnts a + cnts b := by simp [cnts]
theorem steps_count : ∀ (ts : List Tm) (s r : Bs), (∀ t ∈ ts, noSl t) → steps ts (some s) = some r → s.count 47 = cnts ts + r.count 47
  | [], s, r, _, h => by
    have h' : some s = some r := h
    injection h' with h'
    subst h'
    simp [cnts]
  | t :: ts, s, r, hn, h => by
    have h' : steps ts (step t s) = some r := h
    cases he : step t s with
    | none => rw [he, steps_none] at h'; cases h'
    | some s' =>
      rw [he] at h'
      have h1 := step_count he (hn t (by simp))
      have h2 := steps_count ts s' r (fun x hx => hn x (by simp [hx])) h'
      have h3 := cnts_cons t ts
      omega
theorem first_count (star last : Bool) (ts : List Tm) (hn : ∀ t ∈ ts, noSl t) : ∀ (s r : Bs), first star ts last s = some r → s.count 47 = cnts ts + r.count 47
  | [], r, h => by
    unfold first at h
    split at h
    · rename_i t he
      split at h
      · cases h
      · injection h with h
        subst h
        exact steps_count ts [] t hn he
    · cases h
  | b :: s, r, h => by
    have skip : (if (star && b != 47) = true then first star ts last s else none) = some r → (b :: s).count 47 = cnts ts + r.count 47 := by
      intro h
      split at h
      · rename_i hc
        have hb : b ≠ 47 := by rw [Bool.and_eq_true] at hc; simpa using hc.2
        rw [List.count_cons, ← first_count star last ts hn s r h]
        simp [hb]
      · cases h
    unfold first at h
    split at h
    · rename_i t he
      split at h
      · exact skip h
      · injection h with h
        subst h
        exact steps_count ts _ t hn he
    · exact skip h
theorem gmc_count : ∀ (cs : List (Bool × List Tm)) (s : Bs), (∀ x ∈ cs, ∀ t ∈ x.2, noSl t) → gmc cs s = true → s.count 47 = (cs.map fun x => cnts x.2).sum
  | [], s, _, h => by
    have : s = [] := by simpa [gmc] using h
    subst this
    rfl
  | (star, ts) :: cs, s, hn, h => by
    unfold gmc at h
    split at h
    · rename_i t he
      have h1 := first_count star cs.isEmpty ts (hn (star, ts) (by simp)) s t he
      have h2 := gmc_count cs t (fun x hx => hn x (by simp [hx])) h
      simp
      omega
    · cases h
theorem tsplit_cnts : ∀ (ts : List Tm), ((tsplit ts).map fun x => cnts x.2).sum = cnts ts
  | [] => rfl
  | t :: ts => by
    have ih := tsplit_cnts ts
    rw [cnts_cons, ← ih]
    by_cases h0 : t.kind = 0
    · have c0 : cnt t = 0 := by unfold cnt; rw [if_neg (by omega)]
      rw [tsplit_st ts h0, c0, Nat.zero_add]
      cases tsplit ts with
      | nil => rfl
      | cons z cs => obtain ⟨b, c⟩ := z; cases b <;> rfl
    · rw [tsplit_ne ts h0]
      cases tsplit ts with
      | nil => simp [cnts]
      | cons z cs =>
        obtain ⟨b, c⟩ := z
        cases b
        · show cnts (t :: c) + _ = cnt t + (cnts c + _)
          rw [cnts_cons, Nat.add_assoc]
        · show cnts [t] + _ = cnt t + _
          rw [cnts_cons]
          rfl
theorem enc_count {c : Nat} : (enc c).count 47 = if c = 47 then 1 else 0 := by
  by_cases h : c < 128
  · rw [enc_ascii h]
    by_cases h47 : c = 47
    · subst h47; rfl
    · rw [if_neg h47, List.count_eq_zero]
      intro hm
      simp only [List.mem_singleton] at hm
      have := congrArg UInt8.toNat hm
      rw [toNat_ofNat8 c (by omega)] at this
      exact h47 this.symm
  · rw [if_neg (by omega), List.count_eq_zero]
    obtain ⟨b, t, e, h1, _, h3⟩ := enc_high (c := c) (by omega)
    rw [e]
    intro hm
    rcases List.mem_cons.1 hm with rfl | hm
    · exact absurd h1 (by decide)
    · exact absurd (h3 _ hm).1 (by decide)
theorem cnts_lits (l : Bs) : cnts (lits l) = l.count 47 := by
  induction l with
  | nil => rfl
  | cons b l ih =>
    show cnts (Tm.lit b :: lits l) = _
    rw [cnts_cons, ih, List.count_cons, Nat.add_comm]
    congr 1
    unfold cnt
    by_cases h : b = 47
    · subst h; rfl
    · rw [if_neg (fun x => h (UInt8.toNat_inj.1 x.2))]
      simp [h]
theorem exs_cnts : ∀ (ts : List Tm), (∀ t ∈ ts, goodTm t) → cnts (exs ts) = slashN ts
  | [], _ => rfl
  | t :: ts, hg => by
    have ih := exs_cnts ts (fun x hx => hg x (by simp [hx]))
    rw [exs_cons, cnts_append, ih]
    have gt := hg t (by simp)
    unfold slashN
    rw [List.filter_cons]
    by_cases h3 : t.kind = 3
    · rw [ex_char h3, cnts_lits, enc_count]
      by_cases h47 : t.chr = 47 <;> simp [h3, h47] <;> omega
    · have := good_kind gt
      have c0 : cnts (ex t) = 0 := by
        rw [ex_other h3]
        show cnt t + 0 = 0
        unfold cnt
        rw [if_neg (by omega)]
      rw [c0]
      simp [h3]
/-- FnSlashCount. -/
theorem law_slashCount {p n : Bs} {ts : List Tm} (h : Tms p ts) (hc : slashClass ts = false) (hm : mm p n = true) : n.count 47 = slashN ts := by
  obtain ⟨hp, hg, _, _⟩ := h.all
  rw [mm_of hp] at hm
  rw [← exs_cnts ts hg, ← tsplit_cnts]
  refine gmc_count _ n (fun x hx t ht => ?_) hm
  refine (tsplit_all noSl (exs ts) (fun u hu => ?_) x hx t ht).1
  obtain ⟨v, hv, hu⟩ := List.mem_flatMap.1 hu
  intro k2
  by_cases h3 : v.kind = 3
  · rw [ex_char h3] at hu
    obtain ⟨b, _, rfl⟩ := List.mem_map.1 hu
    cases k2
  · rw [ex_other h3] at hu
    simp only [List.mem_singleton] at hu
    subst hu
    have := List.any_eq_false.1 hc u hv
    simpa [k2, adm] using this
/-- FnSlashNoneBytes. -/
theorem law_slashNone {p n : Bs} {ts : List Tm} (h : Tms p ts) (hc : noSlashT ts = true) (hm : mm p n = true) : n.contains 47 = false := by
  unfold noSlashT at hc
  rw [Bool.and_eq_true, decide_eq_true_eq] at hc
  have := law_slashCount h (by simpa using hc.2) hm
  rw [hc.1, List.count_eq_zero] at this
  simpa using this

/-! ### Names without a slash -/
theorem step_no {t : Tm} {s r : Bs} (h : step t s = some r) (hs : (47 : UInt8) ∉ s) : 47 ∉ r := by
  cases s with
  | nil => cases h
  | cons b s =>
    have hd : ∀ k, 47 ∉ (b :: s).drop k := fun k hm => hs (List.mem_of_mem_drop hm)
    unfold step at h
    simp only at h
    repeat' split at h
    all_goals first | (injection h with h; subst h; first | exact hd _ | exact fun hm => hs (List.mem_cons_of_mem _ hm)) | cases h
def sameOn (t u : Tm) : Prop := (t.kind = 0 ↔ u.kind = 0) ∧ ∀ s : Bs, 47 ∉ s → step t s = step u s
inductive SameO : List Tm → List Tm → Prop
  | nil : SameO [] []
  | cons {t u : Tm} {ts us : List Tm} : sameOn t u → SameO ts us → SameO (t :: ts) (u :: us)
theorem SameO.refl : ∀ ts, SameO ts ts
  | [] => .nil
  | _ :: ts => .cons ⟨Iff.rfl, fun _ _ => rfl⟩ (SameO.refl ts)
theorem SameO.append {a b c d : List Tm} (h : SameO a b) (k : SameO c d) : SameO (a ++ c) (b ++ d) := by
  induction h with
  | nil => exact k
  | cons h _ ih => exact .cons h ih
theorem steps_on {a b : List Tm} (h : SameO a b) : ∀ s : Bs, 47 ∉ s → steps a (some s) = steps b (some s) ∧ ∀ r, steps a (some s) = some r → 47 ∉ r := by
  induction h with
  | nil =>
    intro s hs
    refine ⟨rfl, fun r h => ?_⟩
    have h' : some s = some r := h
    injection h' with h'
    exact h' ▸ hs
  | cons h _ ih =>
    rename_i t u ts us _
    intro s hs
    have e1 : steps (t :: ts) (some s) = steps ts (step t s) := rfl
    have e2 : steps (u :: us) (some s) = steps us (step t s) := by rw [h.2 s hs]; rfl
    rw [e1, e2]
    cases he : step t s with
    | none => rw [steps_none, steps_none]; exact ⟨rfl, fun r h => by cases h⟩
    | some s' => exact ih s' (step_no he hs)
theorem first_on (star last : Bool) {a b : List Tm} (h : SameO a b) : ∀ s : Bs, 47 ∉ s → first star a last s = first star b last s ∧ ∀ r, first star a last s = some r → 47 ∉ r
  | [], hs => by
    obtain ⟨e, k⟩ := steps_on h [] hs
    unfold first
    rw [e]
    rw [e] at k
    refine ⟨rfl, fun r h => ?_⟩
    split at h
    · rename_i t he
      split at h
      · cases h
      · injection h with h
        exact h ▸ k t he
    · cases h
  | c :: s, hs => by
    obtain ⟨e, k⟩ := steps_on h (c :: s) hs
    obtain ⟨i1, i2⟩ := first_on star last h s (fun hm => hs (List.mem_cons_of_mem _ hm))
    rw [i1] at i2
    unfold first
    rw [e, i1]
    rw [e] at k
    refine ⟨rfl, fun r h => ?_⟩
    split at h
    · rename_i t he
      split at h
      · split at h
        · exact i2 r h
        · cases h
      · injection h with h
        exact h ▸ k t he
    · split at h
      · exact i2 r h
      · cases h
inductive SameOC : List (Bool × List Tm) → List (Bool × List Tm) → Prop
  | nil : SameOC [] []
  | cons {x : Bool} {a b : List Tm} {cs ds : List (Bool × List Tm)} : SameO a b → SameOC cs ds → SameOC ((x, a) :: cs) ((x, b) :: ds)
theorem SameOC.empty {a b : List (Bool × List Tm)} (h : SameOC a b) : a.isEmpty = b.isEmpty := by cases h <;> rfl
theorem gmc_on {a b : List (Bool × List Tm)} (h : SameOC a b) : ∀ s : Bs, 47 ∉ s → gmc a s = gmc b s := by
  induction h with
  | nil => intro s _; rfl
  | cons h k ih =>
    intro s hs
    rename_i x a b cs ds
    unfold gmc
    obtain ⟨e, kk⟩ := first_on x ds.isEmpty h s hs
    rw [k.empty, e]
    rw [e] at kk
    split
    · rename_i t he
      exact ih t (kk t he)
    · rfl
theorem tsplit_on {a b : List Tm} (h : SameO a b) : SameOC (tsplit a) (tsplit b) := by
  induction h with
  | nil => exact .nil
  | cons h _ ih =>
    rename_i t u ts us _
    unfold tsplit
    by_cases h0 : t.kind = 0
    · rw [if_pos h0, if_pos (h.1.1 h0)]
      generalize tsplit ts = x at ih ⊢
      generalize tsplit us = y at ih ⊢
      cases ih with
      | nil => exact .cons .nil .nil
      | cons h2 k2 =>
        rename_i z _ _ _ _
        cases z <;> exact .cons h2 k2
    · rw [if_neg h0, if_neg (fun e => h0 (h.1.2 e))]
      generalize tsplit ts = x at ih ⊢
      generalize tsplit us = y at ih ⊢
      cases ih with
      | nil => exact .cons (.cons h .nil) .nil
      | cons h2 k2 =>
        rename_i z _ _ _ _
        cases z with
        | true => exact .cons (.cons h .nil) (.cons h2 k2)
        | false => exact .cons (.cons h h2) k2
/-- FnClassAll. -/
theorem law_classAll {p q n : Bs} (hp : bb p = false) (hq : bb q = false) (hn : n.contains 47 = false) : alikeF (p ++ [91, 94, 98, 45, 97, 93] ++ q) (p ++ [63] ++ q) n = true := by
  obtain ⟨ts, h1⟩ := bb_some hp
  obtain ⟨us, h2⟩ := bb_some hq
  have a : parse false (p ++ [91, 94, 98, 45, 97, 93] ++ q) = some (ts ++ [Tm.cls true [(98, 97)]] ++ us) := by
    have := parse_app h1 [91, 94, 98, 45, 97, 93]
    rw [parse_all_range] at this
    rw [parse_app this, h2]
    rfl
  have b : parse false (p ++ [63] ++ q) = some (ts ++ [Tm.any] ++ us) := by
    have := parse_app h1 [63]
    rw [parse_quest] at this
    rw [parse_app this, h2]
    rfl
  have hn' : (47 : UInt8) ∉ n := by simpa using hn
  refine alikeF_true (by rw [bb_of a, bb_of b]) (.inr ?_)
  rw [mm_of a, mm_of b]
  refine gmc_on (tsplit_on (((SameO.refl ts).append (.cons ⟨by simp, fun s hs => ?_⟩ .nil)).append (SameO.refl us))) n hn'
  cases s with
  | nil => rfl
  | cons c s =>
    have hc : c ≠ 47 := fun e => hs (by simp [e])
    rw [step_any, if_neg hc]
    unfold step
    simp [inR_empty]

/-! ### Cuts -/
theorem cutsB_get : ∀ (cs : List Nat) (pos i : Nat), scs cs → i < cs.length → (cutsB pos (encs cs))[i]? = some (pos + (encs (cs.take (i + 1))).length)
  | [], _, _, _, h => by simp at h
  | c :: cs, pos, i, hs, h => by
    have hne : enc c ++ encs cs ≠ [] := fun e => enc_ne c (List.append_eq_nil_iff.1 e).1
    have hd := dec_enc (scs_cons.1 hs).1 (encs cs)
    rw [encs_cons, cutsB_ne pos _ hne, hd]
    show ((pos + (enc c).length) :: cutsB (pos + (enc c).length) ((enc c ++ encs cs).drop (enc c).length))[i]? = _
    rw [List.drop_left]
    cases i with
    | zero =>
      show some (pos + (enc c).length) = some (pos + (enc c ++ []).length)
      rw [List.append_nil]
    | succ i =>
      rw [List.getElem?_cons_succ, cutsB_get cs _ i (scs_cons.1 hs).2 (by simpa using h)]
      show some _ = some (pos + (enc c ++ encs (cs.take (i + 1))).length)
      rw [List.length_append, Nat.add_assoc]
def cutK (n : Bs) (i : Nat) : Nat := (encs ((runes n).take i)).length
theorem cuts_get {n : Bs} (hv : validD n = true) (i : Nat) (h : i ≤ (runes n).length) : (cutsL n)[i]? = some (cutK n i) := by
  obtain ⟨s1, s2⟩ := valid_runes _ n (Nat.le_refl _) hv
  cases i with
  | zero => rfl
  | succ i =>
    have := cutsB_get (runes n) 0 i s1 h
    rw [s2, Nat.zero_add] at this
    exact this
theorem cut_facts {n : Bs} (hv : validD n = true) (i : Nat) : validD (n.take (cutK n i)) = true ∧ runes (n.take (cutK n i)) = (runes n).take i ∧ validD (n.drop (cutK n i)) = true ∧ runes (n.drop (cutK n i)) = (runes n).drop i ∧ cutK n i ≤ n.length := by
  obtain ⟨s1, s2⟩ := valid_runes _ n (Nat.le_refl _) hv
  have e : n = encs ((runes n).take i) ++ encs ((runes n).drop i) := by rw [← encs_append, List.take_append_drop, s2]
  have h1 : scs ((runes n).take i) := fun c hc => s1 c (List.mem_of_mem_take hc)
  have h2 : scs ((runes n).drop i) := fun c hc => s1 c (List.mem_of_mem_drop hc)
  have t1 : n.take (cutK n i) = encs ((runes n).take i) := by
    unfold cutK
    generalize (runes n).take i = A at e ⊢
    rw [e, List.take_left]
  have t2 : n.drop (cutK n i) = encs ((runes n).drop i) := by
    unfold cutK
    generalize (runes n).take i = A at e ⊢
    generalize (runes n).drop i = B at e ⊢
    rw [e, List.drop_left]
  refine ⟨by rw [t1]; exact valid_encs _ h1, by rw [t1, runes_encs _ h1], by rw [t2]; exact valid_encs _ h2, by rw [t2, runes_encs _ h2], ?_⟩
  have := congrArg List.length e
  rw [List.length_append] at this
  unfold cutK
  omega
theorem cuts_mem {n : Bs} (hv : validD n = true) {x : Nat} (h : x ∈ cutsL n) : ∃ i, i ≤ (runes n).length ∧ x = cutK n i := by
  obtain ⟨i, hi, e⟩ := List.getElem_of_mem h
  rw [cutsL_len] at hi
  have := cuts_get hv i (by omega)
  rw [List.getElem?_eq_getElem (by rw [cutsL_len]; omega), e] at this
  injection this with this
  exact ⟨i, by omega, this⟩
/-- FnConcat. -/
theorem law_concat {p q n : Bs} (hp : wfB p = true) (hq : wfB q = true) (hd : decdB (p ++ q) n = true) : mm (p ++ q) n = (cutsL n).any fun i => mm p (n.take i) && mm q (n.drop i) := by
  obtain ⟨ts, tp⟩ := tms_of hp
  obtain ⟨us, tq⟩ := tms_of hq
  have T := tp.app tq
  obtain ⟨hv, D⟩ := decd_dcd T hd
  rw [dcd_mm T hv D, Bool.eq_iff_iff, mtr_append, List.any_eq_true]
  constructor
  · rintro ⟨a, b, e, h1, h2⟩
    have hi : a.length ≤ (runes n).length := by rw [e, List.length_append]; omega
    obtain ⟨f1, f2, f3, f4, _⟩ := cut_facts hv a.length
    refine ⟨cutK n a.length, List.mem_of_getElem? (cuts_get hv a.length hi), ?_⟩
    have e1 : (runes n).take a.length = a := by rw [e, List.take_left]
    have e2 : (runes n).drop a.length = b := by rw [e, List.drop_left]
    rw [Bool.and_eq_true, dcd_mm tp f1 (D.left fun c hc => by rw [f2] at hc; exact List.mem_of_mem_take hc), dcd_mm tq f3 (D.right fun c hc => by rw [f4] at hc; exact List.mem_of_mem_drop hc), f2, f4, e1, e2]
    exact ⟨h1, h2⟩
  · rintro ⟨x, hx, h⟩
    obtain ⟨i, hi, rfl⟩ := cuts_mem hv hx
    obtain ⟨f1, f2, f3, f4, _⟩ := cut_facts hv i
    rw [Bool.and_eq_true, dcd_mm tp f1 (D.left fun c hc => by rw [f2] at hc; exact List.mem_of_mem_take hc), dcd_mm tq f3 (D.right fun c hc => by rw [f4] at hc; exact List.mem_of_mem_drop hc), f2, f4] at h
    exact ⟨_, _, (List.take_append_drop i _).symm, h.1, h.2⟩
/-- FnAnyTail. -/
theorem law_anyTail {p n : Bs} (hp : wfB p = true) (hd : decdB (p ++ [63]) n = true) (hn : n ≠ []) : 2 ≤ (cutsL n).length ∧ ∃ k, (cutsL n)[(cutsL n).length - 2]? = some k ∧ k ≤ n.length ∧ mm (p ++ [63]) n = (decide (n.drop k ≠ [47]) && mm p (n.take k)) := by
  obtain ⟨ts, tp⟩ := tms_of hp
  have T := tp.app tms_any
  obtain ⟨hv, D⟩ := decd_dcd T hd
  have hr : 1 ≤ (runes n).length := by rw [runes_ne n hn]; simp
  rw [cutsL_len]
  refine ⟨by omega, cutK n ((runes n).length - 1), cuts_get hv _ (by omega), ?_⟩
  obtain ⟨f1, f2, f3, f4, f5⟩ := cut_facts hv ((runes n).length - 1)
  refine ⟨f5, ?_⟩
  obtain ⟨c, hc⟩ : ∃ c, (runes n).drop ((runes n).length - 1) = [c] := List.length_eq_one_iff.1 (by rw [List.length_drop]; omega)
  have hcc : n.drop (cutK n ((runes n).length - 1)) = [47] ↔ c = 47 := by
    rw [hc] at f4
    constructor
    · intro e
      rw [e] at f4
      have : runes [47] = [47] := rfl
      rw [this] at f4
      injection f4 with f4
      exact f4.symm
    · rintro rfl
      have := (valid_runes _ _ (Nat.le_refl _) f3).2
      rw [f4] at this
      rw [← this]
      rfl
  rw [dcd_mm T hv D, dcd_mm tp f1 (D.left fun c hc => by rw [f2] at hc; exact List.mem_of_mem_take hc), f2, Bool.eq_iff_iff, mtr_append, Bool.and_eq_true, decide_eq_true_eq]
  constructor
  · rintro ⟨a, b, e, h1, h2⟩
    obtain ⟨d, rfl, hd47⟩ := (mtr_any b).1 h2
    have hl : (runes n).length - 1 = a.length := by rw [e, List.length_append]; simp
    rw [hl] at hc ⊢
    rw [hl] at hcc
    have e1 : (runes n).take a.length = a := by rw [e, List.take_left]
    have e2 : (runes n).drop a.length = [d] := by rw [e, List.drop_left]
    rw [e2] at hc
    injection hc with hc
    subst hc
    exact ⟨fun x => hd47 (hcc.1 x), by rw [e1]; exact h1⟩
  · rintro ⟨h1, h2⟩
    refine ⟨_, _, (List.take_append_drop ((runes n).length - 1) _).symm, h2, ?_⟩
    rw [hc, mtr_any]
    exact ⟨c, rfl, fun x => h1 (hcc.2 x)⟩
theorem starRuns_starN : ∀ (b : Bool) (ts : List Tm), starRuns b ts ≤ starN ts
  | _, [] => Nat.le_refl _
  | b, t :: ts => by
    have := starRuns_starN (decide (t.kind = 0)) ts
    unfold starRuns
    rw [starN_cons]
    by_cases h : t.kind = 0
    · rw [if_pos h]
      split <;> omega
    · rw [if_neg h, if_neg (fun x => h x.1)]
      omega
theorem starN_app (ts us : List Tm) : starN (ts ++ us) = starN ts + starN us := by
  unfold starN
  rw [List.filter_append, List.length_append]
/-- FnOneStar. -/
theorem law_oneStar {p q n : Bs} {ts us : List Tm} (tp : Tms p ts) (tq : Tms q us) (h0 : starN (ts ++ us) = 0) (hs : soundB (p ++ [42] ++ q) n = true) :
    ((runes n).length < ts.length + us.length → mm (p ++ [42] ++ q) n = false) ∧ (ts.length + us.length ≤ (runes n).length → ∃ i k, (cutsL n)[ts.length]? = some i ∧ (cutsL n)[(runes n).length - us.length]? = some k ∧ i ≤ k ∧ k ≤ n.length ∧ mm (p ++ [42] ++ q) n = (mm p (n.take i) && (mm q (n.drop k) && !((n.drop i).take (k - i)).contains 47))) := by
  have T := (tp.app tms_star).app tq
  obtain ⟨hv, ho⟩ := sound_open T hs
  rw [starN_app] at h0
  have z1 : starN ts = 0 := by omega
  have z2 : starN us = 0 := by omega
  have D : Dcd (ts ++ [Tm.star] ++ us) (runes n) := ⟨ho, .inr (.inr (by
    have := starRuns_starN false (ts ++ [Tm.star] ++ us)
    rw [starN_app, starN_app, z1, z2] at this
    have e : starN [Tm.star] = 1 := rfl
    omega))⟩
  have key : mtr (ts ++ [Tm.star] ++ us) (runes n) = true ↔ ∃ a m b, runes n = a ++ m ++ b ∧ a.length = ts.length ∧ b.length = us.length ∧ mtr ts a = true ∧ 47 ∉ m ∧ mtr us b = true := by
    rw [mtr_append]
    constructor
    · rintro ⟨x, b, e, h1, h2⟩
      obtain ⟨a, m, rfl, h3, h4⟩ := (mtr_append ts _ x).1 h1
      exact ⟨a, m, b, e, (mtr_len ts a h3).2 z1, (mtr_len us b h2).2 z2, h3, (mtr_star m).1 h4, h2⟩
    · rintro ⟨a, m, b, e, _, _, h1, h2, h3⟩
      exact ⟨a ++ m, b, e, (mtr_append ts _ _).2 ⟨a, m, rfl, h1, (mtr_star m).2 h2⟩, h3⟩
  rw [dcd_mm T hv D]
  refine ⟨fun hl => ?_, fun hl => ?_⟩
  · rw [Bool.eq_false_iff]
    intro h
    obtain ⟨a, m, b, e, h1, h2, _⟩ := key.1 h
    rw [e, List.length_append, List.length_append] at hl
    omega
  · refine ⟨cutK n ts.length, cutK n ((runes n).length - us.length), cuts_get hv _ (by omega), cuts_get hv _ (by omega), ?_⟩
    obtain ⟨f1, f2, f3, f4, f5⟩ := cut_facts hv ts.length
    obtain ⟨g1, g2, g3, g4, g5⟩ := cut_facts hv ((runes n).length - us.length)
    obtain ⟨s1, s2⟩ := valid_runes _ n (Nat.le_refl _) hv
    have hmid : encs ((runes n).take ((runes n).length - us.length)) = encs ((runes n).take ts.length) ++ encs (((runes n).take ((runes n).length - us.length)).drop ts.length) := by
      rw [← encs_append]
      congr 1
      conv => lhs; rw [← List.take_append_drop ts.length ((runes n).take ((runes n).length - us.length))]
      rw [List.take_take, Nat.min_eq_left (by omega)]
    have hik : cutK n ts.length ≤ cutK n ((runes n).length - us.length) := by
      unfold cutK
      have := congrArg List.length hmid
      rw [List.length_append] at this
      omega
    refine ⟨hik, g5, ?_⟩
    have hm2 : (n.drop (cutK n ts.length)).take (cutK n ((runes n).length - us.length) - cutK n ts.length) = encs (((runes n).take ((runes n).length - us.length)).drop ts.length) := by
      rw [← List.drop_take]
      have t1 : n.take (cutK n ((runes n).length - us.length)) = encs ((runes n).take ((runes n).length - us.length)) := by
        have := (valid_runes _ _ (Nat.le_refl _) g1).2
        rw [g2] at this
        exact this.symm
      rw [t1, hmid]
      unfold cutK
      rw [List.drop_left]
    have hsc : scs (((runes n).take ((runes n).length - us.length)).drop ts.length) := fun c hc => s1 c (List.mem_of_mem_take (List.mem_of_mem_drop hc))
    rw [hm2, encs_slash _ hsc, dcd_mm tp f1 ((D.left (r := runes n) fun c hc => hc).left fun c hc => by rw [f2] at hc; exact List.mem_of_mem_take hc), dcd_mm tq g3 (D.right fun c hc => by rw [g4] at hc; exact List.mem_of_mem_drop hc), f2, g4, Bool.eq_iff_iff, key]
    simp only [Bool.and_eq_true, Bool.not_eq_true', List.contains_eq_mem, decide_eq_false_iff_not]
    constructor
    · rintro ⟨a, m, b, e, h1, h2, h3, h4, h5⟩
      have e1 : (runes n).take ts.length = a := by rw [e, List.append_assoc, ← h1, List.take_left]
      have hlen : (runes n).length - us.length = (a ++ m).length := by rw [e, List.length_append, h2]; omega
      have e2 : (runes n).drop ((runes n).length - us.length) = b := by rw [hlen, e, List.drop_left]
      have e3 : (runes n).take ((runes n).length - us.length) = a ++ m := by rw [hlen, e, List.take_left]
      rw [e1, e2, e3, ← h1, List.drop_left]
      exact ⟨h3, h5, h4⟩
    · rintro ⟨h1, h2, h3⟩
      refine ⟨_, _, _, ?_, ?_, ?_, h1, h3, h2⟩
      · have e1 := List.take_append_drop ts.length ((runes n).take ((runes n).length - us.length))
        rw [List.take_take, Nat.min_eq_left (by omega)] at e1
        rw [e1, List.take_append_drop]
      · rw [List.length_take]; omega
      · rw [List.length_drop]; omega

/-! ### A text behind a pattern -/
theorem valid_left {a : Bs} (ha : validD a = true) : ∀ (s : List Nat) (n : Bs), scs s → n ++ a = encs s → validD n = true
  | [], n, _, h => by
    have := (List.append_eq_nil_iff.1 (h.trans encs_nil)).1
    subst this
    rfl
  | c :: s, n, hs, h => by
    obtain ⟨hc, hs'⟩ := scs_cons.1 hs
    have vc : validD (enc c) = true := by
      have := valid_encs [c] (by intro x hx; simp at hx; subst hx; exact hc)
      rw [encs_cons, encs_nil, List.append_nil] at this
      exact this
    rw [encs_cons] at h
    rcases List.append_eq_append_iff.1 h with ⟨a', e1, e2⟩ | ⟨c', e1, e2⟩
    · cases n with
      | nil => rfl
      | cons y n' =>
        cases a' with
        | nil => rw [List.append_nil] at e1; rw [← e1]; exact vc
        | cons x a'' =>
          exfalso
          have hx : 128 ≤ x.toNat ∧ x.toNat < 192 := by
            by_cases h128 : c < 128
            · rw [enc_ascii h128] at e1
              injection e1 with _ e1
              exact absurd e1 (by simp)
            · obtain ⟨b, t, e, _, _, h3⟩ := enc_high (c := c) (by omega)
              rw [e] at e1
              injection e1 with _ e1
              exact h3 x (by rw [e1]; simp)
          obtain ⟨r, hr, rfl⟩ := (valid_iff a).1 ha
          cases r with
          | nil => simp [encs_nil] at e2
          | cons d r =>
            rw [encs_cons] at e2
            by_cases h128 : d < 128
            · rw [enc_ascii h128] at e2
              injection e2 with e2 _
              rw [← e2, toNat_ofNat8 d (by omega)] at hx
              omega
            · obtain ⟨b, t, e, h1, _⟩ := enc_high (c := d) (by omega)
              rw [e] at e2
              injection e2 with e2 _
              rw [← e2] at hx
              omega
    · have := valid_left ha s c' hs' e2.symm
      rw [e1]
      exact valid_app vc this
/-- FnQuoteTail. -/
theorem law_quoteTail {p a n : Bs} (ha : validD a = true) (hp : wfB p = true) (hd : decdB (p ++ quoteB a) (n ++ a) = true) : mm (p ++ quoteB a) (n ++ a) = mm p n ∧ (a.isSuffixOf n = false → mm (p ++ quoteB a) n = false) := by
  obtain ⟨ts, tp⟩ := tms_of hp
  have T := tp.app (tms_quote ha)
  obtain ⟨hv, D⟩ := decd_dcd T hd
  obtain ⟨s1, s2⟩ := valid_runes _ _ (Nat.le_refl _) hv
  have vn : validD n = true := valid_left ha _ n s1 s2.symm
  have hr := runes_app vn ha
  have hmem : ∀ c ∈ runes n, c ∈ runes (n ++ a) := fun c hc => by rw [hr]; exact List.mem_append_left _ hc
  rw [dcd_mm T hv D, dcd_mm tp vn (D.left hmem), dcd_mm T vn (D.name hmem)]
  refine ⟨?_, fun hsuf => ?_⟩
  · rw [Bool.eq_iff_iff, mtr_append]
    constructor
    · rintro ⟨x, y, e, h1, h2⟩
      rw [mtr_chars] at h2
      subst h2
      rw [hr] at e
      rw [List.append_cancel_right e]
      exact h1
    · intro h
      exact ⟨_, _, hr, h, (mtr_chars _ _).2 rfl⟩
  · rw [Bool.eq_false_iff]
    intro h
    obtain ⟨x, y, e, _, h2⟩ := (mtr_append ts _ _).1 h
    rw [mtr_chars] at h2
    subst h2
    have e2 := (valid_runes _ n (Nat.le_refl _) vn).2
    rw [e, encs_append, (valid_runes _ a (Nat.le_refl _) ha).2] at e2
    have : a.isSuffixOf n = true := List.isSuffixOf_iff_suffix.2 ⟨_, e2⟩
    rw [hsuf] at this
    cases this
theorem ba_drop (n : Bs) (x e : Nat) (he : e = n.length) : ((⟨n.toArray⟩ : ByteArray).extract x e).data.toList = n.drop x := by
  subst he
  rw [ByteArray.data_extract, Array.toList_extract]
  show ((n.drop x).take (n.length - x)) = _
  rw [List.take_of_length_le (by rw [List.length_drop]; omega)]
theorem ba_take (n : Bs) (x a e : Nat) (ha : a = 0) (he : e = x) : ((⟨n.toArray⟩ : ByteArray).extract a e).data.toList = n.take x := by
  subst ha he
  rw [ByteArray.data_extract, Array.toList_extract]
  rfl
theorem ba_mid (n : Bs) (x y : Nat) : ((⟨n.toArray⟩ : ByteArray).extract x y).data.toList = (n.drop x).take (y - x) := by
  rw [ByteArray.data_extract, Array.toList_extract]
end Go.Proofs.YtcoaoheakeodoaaDoor

namespace Go.Proofs.YtcoaoheakeodoaaDoor
open Go.ChangeShapes Go.WideShapes Go.ChangeAt Go.RowKit

theorem inR_snocA (rs : List (Nat × Nat)) (r : Nat × Nat) (c : Nat) : inR (rs ++ [r]) c = (inR rs c || decide (r.1 ≤ c ∧ c ≤ r.2)) := by simp [inR]

def AdmRel (rs : List (Nat × Nat)) (c : Nat) (W : World) (b i : Value) (wr : World) : Prop :=
  ∃ (k : Nat), i = .int .i64 (k : Nat) ∧ k ≤ rs.length ∧ b = .bool (inR (rs.take k) c) ∧ W = wr

set_option maxHeartbeats 1000000 in
theorem admits_call (lo : Nat) (t : Tm) (rv : Value) (c : Nat) (w : World) (h : RgRd lo w rv t.rs) (hk : t.kind ≤ 100) (hc : c ≤ 2147483647) (hl : t.rs.length ≤ 100000000) (hr : ∀ r ∈ t.rs, r.1 ≤ 2147483647 ∧ r.2 ≤ 2147483647) :
    Calls Tryd.prog 12 #[.agg #[.int .i64 (t.kind : Nat), .int .i32 (t.chr : Nat), .bool t.neg, rv], .int .i32 (c : Nat)] w fun e w' => e = .returned (.bool (adm t c)) ∧ Below w.heap.size w w' := by
  obtain ⟨k, ch, n, rs⟩ := t
  simp only at h hk hl hr ⊢
  have HB := Lib.hid ((Below.refl w.heap.size w).alloc (Nat.le_refl _) (.cells #[.int .i64 (k : Nat), .int .i32 (ch : Nat), .bool n, rv] 33))
  have h2 := h.below HB.out
  obtain ⟨ra, rcap, rfl, _⟩ := h
  by_cases k1 : k = 1
  · subst k1
    have HF : Hid (adm ⟨1, ch, n, rs⟩ c = decide (c ≠ 47)) := Lib.hid rfl
    by_cases hc47 : c = 47
    · subst hc47
      clear h2 hr
      go_enter Tryd.func12, Tryd.ntmps12
      go_wp2
      go_ret
      exact ⟨by rw [HF.out]; rfl, HB.out⟩
    · have b47 : (((c : Nat) : Int) != 47) = true := by simp; omega
      have HF2 : Hid (adm ⟨1, ch, n, rs⟩ c = true) := Lib.hid (by rw [HF.out]; simpa using hc47)
      clear h2 hr hc47
      go_enter Tryd.func12, Tryd.ntmps12
      go_wp2
      go_ret
      exact ⟨by rw [HF2.out]; rfl, HB.out⟩
  · have e1 : (((k : Nat) : Int) == 1) = false := by simp; omega
    by_cases k3 : k = 3
    · subst k3
      have HF : Hid (adm ⟨3, ch, n, rs⟩ c = decide (c = ch)) := Lib.hid rfl
      by_cases hcc : c = ch
      · subst hcc
        clear h2 hr k1
        go_enter Tryd.func12, Tryd.ntmps12
        go_wp2
        go_ret
        exact ⟨by rw [HF.out]; simp, HB.out⟩
      · have b47 : (((c : Nat) : Int) == ((ch : Nat) : Int)) = false := by simp; omega
        have HF2 : Hid (adm ⟨3, ch, n, rs⟩ c = false) := Lib.hid (by rw [HF.out]; simpa using hcc)
        clear h2 hr hcc k1
        go_enter Tryd.func12, Tryd.ntmps12
        go_wp2
        go_ret
        exact ⟨by rw [HF2.out]; rfl, HB.out⟩
    · have e3 : (((k : Nat) : Int) == 3) = false := by simp; omega
      have HF : Hid (adm ⟨k, ch, n, rs⟩ c = (inR rs c != n)) := Lib.hid (by
        unfold adm
        rw [if_neg k1, if_neg k3])
      obtain ⟨a', cap', e', hcap, hcells⟩ := h2
      injection e' with x1 x2 x3
      subst x1
      subst x3
      have HC := Lib.hid hcells
      have HR := Lib.hid hr
      clear hcells hr x2 k1 k3
      go_enter Tryd.func12, Tryd.ntmps12
      go_wp2
      go_loopw [5, 6] (fun b i wr => AdmRel rs c (w.alloc (.cells #[.int .i64 (k : Nat), .int .i32 (ch : Nat), .bool n, .slice ra rs.length rcap] 33)) b i wr) (fun _ i _ => rs.length - (intOf i).toNat)
      case atStart => exact ⟨0, rfl, by omega, rfl, rfl⟩
      case round =>
        obtain ⟨j, rfl, hj, rfl, rfl⟩ := hrel
        by_cases hjl : j < rs.length
        · obtain ⟨r, hrj⟩ : ∃ r, rs[j]? = some r := ⟨_, List.getElem?_eq_getElem hjl⟩
          obtain ⟨g, o, rfl, hlo, hlt, c1, c2⟩ := HC.out j r hrj
          obtain ⟨r1, r2⟩ := r
          simp only at c1 c2
          have HT : Hid (inR (rs.take (j + 1)) c = (inR (rs.take j) c || decide (r1 ≤ c ∧ c ≤ r2))) := Lib.hid (by rw [List.take_add_one, hrj]; exact inR_snocA _ _ _)
          have hgn : g < w.heap.size + 1 := by simpa using hlt
          clear HC HR hrj hlt
          generalize inR (rs.take j) c = Y at *
          cases Y with
          | true =>
            go_wp2
            go_roundw
            case rel => exact ⟨j + 1, by go_num, by omega, by rw [HT.out]; rfl, rfl⟩
            case measure => simp [intOf]; omega
          | false =>
            by_cases q1 : r1 ≤ c
            · by_cases q2 : c ≤ r2
              · have HT2 : Hid (inR (rs.take (j + 1)) c = true) := Lib.hid (by rw [HT.out, decide_eq_true ⟨q1, q2⟩]; rfl)
                clear HT
                go_wp2
                go_roundw
                case rel => exact ⟨j + 1, by go_num, by omega, by rw [HT2.out], rfl⟩
                case measure => simp [intOf]; omega
              · have HT2 : Hid (inR (rs.take (j + 1)) c = false) := Lib.hid (by rw [HT.out, decide_eq_false (fun x => q2 x.2)]; rfl)
                clear HT
                go_wp2
                go_roundw
                case rel => exact ⟨j + 1, by go_num, by omega, by rw [HT2.out], rfl⟩
                case measure => simp [intOf]; omega
            · have HT2 : Hid (inR (rs.take (j + 1)) c = false) := Lib.hid (by rw [HT.out, decide_eq_false (fun x => q1 x.1)]; rfl)
              clear HT
              go_wp2
              go_roundw
              case rel => exact ⟨j + 1, by go_num, by omega, by rw [HT2.out], rfl⟩
              case measure => simp [intOf]; omega
        · obtain rfl : j = rs.length := by omega
          clear HC HR
          rw [List.take_length]
          generalize inR rs c = Y at *
          cases Y <;> cases n
          all_goals
            go_wp2
            go_ret
            exact ⟨by rw [HF.out]; rfl, HB.out⟩

end Go.Proofs.YtcoaoheakeodoaaDoor

namespace Go.Proofs.YtcoaoheakeodoaaDoor
open Go.ChangeShapes Go.WideShapes Go.ChangeAt Go.RowKit

theorem index_contains (l : Bs) (c : UInt8) : decide (0 ≤ Lib.indexByte l c) = l.contains c := by
  have h := indexByte_neg l c
  cases hc : l.contains c with
  | false => exact decide_eq_false (by have := h.2 hc; omega)
  | true =>
    refine decide_eq_true ?_
    have : ¬ Lib.indexByte l c < 0 := fun x => by rw [h.1 x] at hc; cases hc
    omega

theorem slashB (P : ByteArray) (p : Bs) (w : World) (hP : P.data.toList = p) :
    Calls Tryd.prog 36 #[.string P, .string ⟨#[47]⟩] w fun e w' => e = .returned (.bool (p.contains 47)) ∧ Below w.heap.size w w' := by
  refine (Tryd.strings_Contains_one P 47 w).mono ?_
  rintro e w' ⟨rfl, rfl⟩
  rw [hP, index_contains]
  exact ⟨rfl, Below.refl _ _⟩


set_option maxHeartbeats 1000000 in
theorem slashTerms_call (lo : Nat) (v : Value) (ts : List Tm) (w : World) (h : TmsRd lo w v ts) (hl : ts.length ≤ 100000000) (hk : ∀ t ∈ ts, okNum t) :
    Calls Tryd.prog 54 #[v] w fun e w' => e = .returned (.int .i64 (slashN ts : Nat)) ∧ Below w.heap.size w w' := by
  obtain ⟨a, cap, rfl, hcap, hcells⟩ := h
  have HC := Lib.hid hcells
  have HK := Lib.hid hk
  clear hcells hk
  go_enter Tryd.func54, Tryd.ntmps54
  go_wp2
  go_loopw [3, 4] (fun n i wr => CountRel slashN ts w n i wr) (fun _ i _ => ts.length - (intOf i).toNat)
  case atStart => exact ⟨0, rfl, by omega, rfl, 0, rfl⟩
  case round =>
    obtain ⟨k, rfl, hkl, rfl, q, rfl⟩ := hrel
    have hs1 := slashN_le (ts.take k)
    have hs2 : (ts.take k).length ≤ k := List.length_take_le _ _
    by_cases hlt : k < ts.length
    · obtain ⟨t, ht⟩ : ∃ t, ts[k]? = some t := ⟨_, List.getElem?_eq_getElem hlt⟩
      obtain ⟨g, o, rv, rfl, hlo, hltg, c0, c1, c2, c3, _⟩ := HC.out k t ht
      obtain ⟨hk100, hchr, _⟩ := HK.out t (List.mem_of_getElem? ht)
      have HN : Hid (slashN (ts.take (k + 1)) = slashN (ts.take k) + if t.kind = 3 ∧ t.chr = 47 then 1 else 0) := Lib.hid (by rw [List.take_add_one, ht]; exact slashN_snoc _ _)
      obtain ⟨tk, tc, tn, trs⟩ := t
      simp only at c0 c1 hk100 hchr
      clear HC HK ht c2 c3
      by_cases h3 : tk = 3
      · subst h3
        by_cases h47 : tc = 47
        · subst h47
          have HF : Hid (slashN (ts.take (k + 1)) = slashN (ts.take k) + 1) := Lib.hid HN.out
          clear HN
          go_wp2
          go_roundw
          case rel => exact ⟨k + 1, by go_num, by omega, by rw [HF.out]; go_num, q, rfl⟩
          case measure => simp [intOf]; omega
        · have b0 : (((tc : Nat) : Int) == 47) = false := by simp; omega
          have HF : Hid (slashN (ts.take (k + 1)) = slashN (ts.take k)) := Lib.hid (by rw [HN.out, if_neg (fun x => h47 x.2)]; rfl)
          clear HN h47
          go_wp2
          go_roundw
          case rel => exact ⟨k + 1, by go_num, by omega, by rw [HF.out], q, rfl⟩
          case measure => simp [intOf]; omega
      · have b0 : (((tk : Nat) : Int) == 3) = false := by simp; omega
        have HF : Hid (slashN (ts.take (k + 1)) = slashN (ts.take k)) := Lib.hid (by rw [HN.out, if_neg (fun x => h3 x.1)]; rfl)
        clear HN h3
        go_wp2
        go_roundw
        case rel => exact ⟨k + 1, by go_num, by omega, by rw [HF.out], q, rfl⟩
        case measure => simp [intOf]; omega
    · obtain rfl : k = ts.length := by omega
      clear HC HK
      rw [List.take_length]
      go_wp2
      go_ret
      exact ⟨rfl, below_drewN (Below.refl _ w) q⟩

def lastStar : Bool → List Tm → Bool
  | b, [] => b
  | _, t :: ts => lastStar (decide (t.kind = 0)) ts
theorem starRuns_snoc (t : Tm) : ∀ (b : Bool) (ts : List Tm), starRuns b (ts ++ [t]) = starRuns b ts + if t.kind = 0 ∧ lastStar b ts = false then 1 else 0
  | b, [] => by
    show (if t.kind = 0 ∧ b = false then 1 else 0) + 0 = 0 + if t.kind = 0 ∧ b = false then 1 else 0
    rw [Nat.add_zero, Nat.zero_add]
  | b, u :: ts => by
    rw [List.cons_append]
    show _ + starRuns (decide (u.kind = 0)) (ts ++ [t]) = _ + starRuns (decide (u.kind = 0)) ts + if t.kind = 0 ∧ lastStar (decide (u.kind = 0)) ts = false then 1 else 0
    rw [starRuns_snoc t _ ts, Nat.add_assoc]
theorem lastStar_snoc (u : Tm) : ∀ (b : Bool) (ts : List Tm), lastStar b (ts ++ [u]) = decide (u.kind = 0)
  | _, [] => rfl
  | _, _ :: ts => lastStar_snoc u _ ts
theorem starRuns_le : ∀ (b : Bool) (ts : List Tm), starRuns b ts ≤ ts.length
  | _, [] => Nat.le_refl _
  | b, t :: ts => by
    have := starRuns_le (decide (t.kind = 0)) ts
    unfold starRuns
    rw [List.length_cons]
    split <;> omega

set_option maxHeartbeats 1000000 in
theorem starRuns_call (lo : Nat) (v : Value) (ts : List Tm) (w : World) (h : TmsRd lo w v ts) (hl : ts.length ≤ 100000000) (hk : ∀ t ∈ ts, t.kind ≤ 100) :
    Calls Tryd.prog 40 #[v] w fun e w' => e = .returned (.int .i64 (starRuns false ts : Nat)) ∧ Below w.heap.size w w' := by
  obtain ⟨a, cap, rfl, hcap, hcells⟩ := h
  have HC := Lib.hid hcells
  have HK := Lib.hid hk
  clear hcells hk
  go_enter Tryd.func40, Tryd.ntmps40
  go_wp2
  go_loopw [3, 4] (fun n i wr => CountRel (starRuns false) ts w n i wr) (fun _ i _ => ts.length - (intOf i).toNat)
  case atStart => exact ⟨0, rfl, by omega, rfl, 0, rfl⟩
  case round =>
    obtain ⟨k, rfl, hkl, rfl, q, rfl⟩ := hrel
    have hs1 := starRuns_le false (ts.take k)
    have hs2 : (ts.take k).length ≤ k := List.length_take_le _ _
    by_cases hlt : k < ts.length
    · obtain ⟨t, ht⟩ : ∃ t, ts[k]? = some t := ⟨_, List.getElem?_eq_getElem hlt⟩
      obtain ⟨g, o, rv, rfl, hlo, hltg, c0, _, _, _, _⟩ := HC.out k t ht
      have hk100 := HK.out t (List.mem_of_getElem? ht)
      have HN : Hid (starRuns false (ts.take (k + 1)) = starRuns false (ts.take k) + if t.kind = 0 ∧ lastStar false (ts.take k) = false then 1 else 0) := Lib.hid (by rw [List.take_add_one, ht]; exact starRuns_snoc _ _ _)
      obtain ⟨tk, tc, tn, trs⟩ := t
      simp only at c0 hk100
      by_cases h0 : tk = 0
      · subst h0
        cases k with
        | zero =>
          have HF : Hid (starRuns false (ts.take (0 + 1)) = 1) := Lib.hid HN.out
          clear HN HC HK ht hs1 hs2
          rw [show starRuns false (ts.take 0) = 0 from rfl]
          simp only [Nat.zero_mul, Nat.add_zero] at c0
          go_wp2
          go_roundw
          case rel => exact ⟨0 + 1, by go_num, by omega, by rw [HF.out]; first | rfl | go_num, q, rfl⟩
          case measure => simp [intOf]; omega
        | succ j =>
          obtain ⟨u, hu⟩ : ∃ t, ts[j]? = some t := ⟨_, List.getElem?_eq_getElem (by omega)⟩
          obtain ⟨g', o', rv', e', _, _, d0, _, _, _, _⟩ := HC.out j u hu
          injection e' with e'
          injection e' with e1 e2
          subst e1
          subst e2
          have hku := HK.out u (List.mem_of_getElem? hu)
          have HL : Hid (lastStar false (ts.take (j + 1)) = decide (u.kind = 0)) := Lib.hid (by rw [List.take_add_one, hu]; exact lastStar_snoc _ _ _)
          obtain ⟨uk, uc, un, urs⟩ := u
          simp only at d0 hku
          have ek : ((j + 1 : Nat) : Int) = (j : Int) + 1 := by omega
          rw [ek]
          clear ek HC HK ht hu
          have hj0 : (((j : Int) + 1) == 0) = false := by simp; omega
          have hj1 : (0 : Int) ≤ (j : Int) := by omega
          by_cases hu0 : uk = 0
          · subst hu0
            have HF : Hid (starRuns false (ts.take (j + 1 + 1)) = starRuns false (ts.take (j + 1))) := Lib.hid (by rw [HN.out, if_neg (fun x => by have := x.2; rw [HL.out] at this; cases this)]; rfl)
            clear HN HL
            go_wp2
            go_roundw
            case rel => exact ⟨j + 1 + 1, by go_num, by omega, by rw [HF.out], q, rfl⟩
            case measure => simp [intOf]; omega
          · have b0 : (((uk : Nat) : Int) != 0) = true := by simp; omega
            have HF : Hid (starRuns false (ts.take (j + 1 + 1)) = starRuns false (ts.take (j + 1)) + 1) := Lib.hid (by rw [HN.out, if_pos ⟨rfl, by rw [HL.out]; exact decide_eq_false hu0⟩])
            clear HN HL hu0
            go_wp2
            go_roundw
            case rel => exact ⟨j + 1 + 1, by go_num, by omega, by rw [HF.out]; go_num, q, rfl⟩
            case measure => simp [intOf]; omega
      · have b0 : (((tk : Nat) : Int) == 0) = false := by simp; omega
        have HF : Hid (starRuns false (ts.take (k + 1)) = starRuns false (ts.take k)) := Lib.hid (by rw [HN.out, if_neg (fun x => h0 x.1)]; rfl)
        clear HN h0 HC HK ht
        go_wp2
        go_roundw
        case rel => exact ⟨k + 1, by go_num, by omega, by rw [HF.out], q, rfl⟩
        case measure => simp [intOf]; omega
    · obtain rfl : k = ts.length := by omega
      clear HC HK
      rw [List.take_length]
      go_wp2
      go_ret
      exact ⟨rfl, below_drewN (Below.refl _ w) q⟩

def SlashRel (ts : List Tm) (w : World) (i : Value) (wr : World) : Prop := ∃ k : Nat, i = .int .i64 (k : Nat) ∧ k ≤ ts.length ∧ slashClass ts = slashClass (ts.drop k) ∧ Below w.heap.size w wr

set_option maxHeartbeats 2000000 in
theorem slashClass_call (lo : Nat) (v : Value) (ts : List Tm) (w : World) (h : TmsRd lo w v ts) (hl : ts.length ≤ 100000000) (hw : weight ts ≤ 100000000) (hk : ∀ t ∈ ts, okNum t) :
    Calls Tryd.prog 39 #[v] w fun e w' => e = .returned (.bool (slashClass ts)) ∧ Below w.heap.size w w' := by
  have HT := Lib.hid h
  have HG := Lib.hid hk
  obtain ⟨a, cap, rfl, hcap, _⟩ := h
  clear hk
  go_enter Tryd.func39, Tryd.ntmps39
  go_wp2
  go_loopw [3] (fun i wr => SlashRel ts w i wr) (fun i _ => ts.length - (intOf i).toNat)
  case atStart => exact ⟨0, rfl, by omega, rfl, Below.refl _ _⟩
  case round =>
    obtain ⟨k, rfl, hkl, ho, hb⟩ := hrel
    have HO := Lib.hid ho
    have HB := Lib.hid hb
    clear ho hb
    by_cases hlt : k < ts.length
    · obtain ⟨t, htk⟩ : ∃ t, ts[k]? = some t := ⟨_, List.getElem?_eq_getElem hlt⟩
      obtain ⟨a', cap', e', _, hcells⟩ := HT.out.below HB.out
      obtain ⟨g, o, rv, rfl, hlo, hltg, c1, c2, c3, c4, hrg⟩ := hcells k t htk
      injection e' with e1 e2 e3
      subst e1
      clear e2 e3 hcells
      obtain ⟨n1, n2, n3⟩ := HG.out t (List.mem_of_getElem? htk)
      have hwtk : t.rs.length ≤ weight ts := weight_at htk
      have HN : Hid (slashClass ts = ((decide (t.kind = 2) && adm t 47) || slashClass (ts.drop (k + 1)))) := Lib.hid (by
        rw [HO.out, List.drop_eq_getElem_cons hlt]
        rw [List.getElem?_eq_getElem hlt] at htk
        injection htk with htk
        rw [htk]
        rfl)
      clear HO
      by_cases h2 : t.kind = 2
      · have hcall := Lib.hid (fun w1 (hb1 : Below wr.heap.size wr w1) => admits_call _ t rv 47 w1 (hrg.below hb1) n1 (by omega) (by omega) n3)
        have HN2 : Hid (slashClass ts = (adm t 47 || slashClass (ts.drop (k + 1)))) := Lib.hid (by rw [HN.out, decide_eq_true h2, Bool.true_and])
        obtain ⟨ra, rcap, rfl, _⟩ := hrg
        clear HN HG htk n3
        generalize adm t 47 = AD at *
        obtain ⟨tk, tc, tn, trs⟩ := t
        simp only at c1 c2 c3 c4 n1 n2 hwtk hcall h2
        subst h2
        go_wp2_with fail
        refine (hcall.out _ (Below.refl _ _)).mono ?_
        rintro e w' ⟨rfl, hb⟩
        have HB2 := Lib.hid (HB.out.trans (hb.mono HB.out.size))
        clear hb hcall
        cases AD with
        | true =>
          have HF : Hid (slashClass ts = true) := Lib.hid HN2.out
          clear HN2
          go_wp2
          go_ret
          exact ⟨by rw [HF.out]; rfl, HB2.out⟩
        | false =>
          have HF : Hid (slashClass ts = slashClass (ts.drop (k + 1))) := Lib.hid HN2.out
          clear HN2
          go_wp2
          go_roundw
          case rel => exact ⟨k + 1, by go_num, by omega, HF.out, HB2.out⟩
          case measure => simp [intOf]; omega
      · have b2 : (((t.kind : Nat) : Int) == 2) = false := by simp; omega
        have HF : Hid (slashClass ts = slashClass (ts.drop (k + 1))) := Lib.hid (by rw [HN.out, decide_eq_false h2]; rfl)
        clear HN HG htk n3 hrg h2
        obtain ⟨tk, tc, tn, trs⟩ := t
        simp only at c1 c2 c3 c4 n1 n2 hwtk b2
        go_wp2
        go_roundw
        case rel => exact ⟨k + 1, by go_num, by omega, HF.out, HB.out⟩
        case measure => simp [intOf]; omega
    · have HF : Hid (slashClass ts = false) := Lib.hid (by rw [HO.out, List.drop_eq_nil_of_le (by omega)]; rfl)
      have hlt2 : ¬ ((k : Int) < (ts.length : Int)) := by omega
      clear HO HT HG
      go_wp2
      go_ret
      exact ⟨by rw [HF.out]; rfl, HB.out⟩

theorem noSlash_call (lo : Nat) (v : Value) (ts : List Tm) (w : World) (h : TmsRd lo w v ts) (hl : ts.length ≤ 100000000) (hw : weight ts ≤ 100000000) (hk : ∀ t ∈ ts, okNum t) :
    Calls Tryd.prog 35 #[v] w fun e w' => e = .returned (.bool (noSlashT ts)) ∧ Below w.heap.size w w' := by
  have HT := Lib.hid h
  have HG := Lib.hid hk
  obtain ⟨a, cap, rfl, hcap, _⟩ := h
  clear hk
  go_enter Tryd.func35, Tryd.ntmps35
  go_wp2_with fail
  refine (slashTerms_call _ _ ts w HT.out hl HG.out).mono ?_
  rintro e w1 ⟨rfl, hb⟩
  have HB1 := Lib.hid hb
  have hcall := Lib.hid (slashClass_call _ _ ts w1 (HT.out.below hb) hl hw HG.out)
  have HF : Hid (noSlashT ts = (decide (slashN ts = 0) && !slashClass ts)) := Lib.hid rfl
  have hsn := slashN_le ts
  clear hb HT HG
  generalize slashN ts = N at *
  generalize slashClass ts = C at *
  by_cases h0 : N = 0
  · subst h0
    have HF2 : Hid (noSlashT ts = !C) := Lib.hid HF.out
    clear HF
    go_wp2_with fail
    refine hcall.out.mono ?_
    rintro e w2 ⟨rfl, hb⟩
    have HB2 := Lib.hid (HB1.out.trans (hb.mono HB1.out.size))
    clear hb hcall
    cases C
    all_goals
      go_wp2
      go_ret
      exact ⟨by rw [HF2.out]; rfl, HB2.out⟩
  · have b0 : (((N : Nat) : Int) == 0) = false := by simp; omega
    have HF2 : Hid (noSlashT ts = false) := Lib.hid (by rw [HF.out, decide_eq_false h0]; rfl)
    clear HF h0 hcall
    go_wp2
    go_ret
    exact ⟨by rw [HF2.out]; rfl, HB1.out⟩

set_option maxHeartbeats 1000000 in
theorem decidedCB (ae : Addr) (P N : ByteArray) (p n : Bs) (w : World) (hE : Env ae w) (hP : P.data.toList = p) (hN : N.data.toList = n) (hp : p.length ≤ 100000000) (hn : n.length ≤ 100000000) :
    Calls Tryd.prog 17 #[.string P, .string N] w fun e w' => e = .returned (.bool (decdB p n)) ∧ Below w.heap.size w w' := by
  have HE := Lib.hid hE
  have HP := Lib.hid hP
  have HN := Lib.hid hN
  have hfd := fld0
  clear hE hP hN
  go_enter Tryd.func17, Tryd.ntmps17
  go_wp2_with fail
  refine (soundCB ae P N p n w HE.out HP.out HN.out hp hn).mono ?_
  rintro e w1 ⟨rfl, hb⟩
  have HB1 := Lib.hid hb
  clear hb HE
  generalize hW : soundB p n = W
  have HW := Lib.hid hW
  clear hW
  cases W with
  | false =>
    have HF : Hid (decdB p n = false) := Lib.hid (by unfold decdB; rw [HW.out]; rfl)
    clear HW
    go_wp2
    go_ret
    exact ⟨by rw [HF.out]; rfl, HB1.out⟩
  | true =>
    have hwf : wfB p = true := by
      have h := HW.out
      unfold soundB at h
      rw [Bool.and_eq_true] at h
      exact h.1
    obtain ⟨ts, hrd, _, hgood, _, _⟩ := wf_terms hwf
    have hwt := read_weight' p ts hrd
    have hwl := weight_len ts
    have HG : Hid (∀ t ∈ ts, okNum t) := Lib.hid (fun t ht => good_ok (hgood t ht))
    have HRD := Lib.hid hrd
    have HF : Hid (decdB p n = (!slashClass ts || (!n.contains 47 || decide (starRuns false ts < 2)))) := Lib.hid (by unfold decdB; rw [HW.out, hrd]; rfl)
    clear HW hrd hgood hwf
    go_wp2_with fail
    refine (readB P p w1 HP.out hp).mono ?_
    rintro e w3 ⟨hb, va, vn, vc, rfl, hts⟩
    obtain ⟨rfl, htm⟩ := hts ts HRD.out
    have HT := Lib.hid htm
    have HB3 := Lib.hid (HB1.out.trans (hb.mono HB1.out.size))
    generalize rdOk p = OK
    generalize rdSet p = ST
    clear hb HB1 HRD hts htm
    go_wp2_with fail
    refine (slashClass_call _ _ ts w3 HT.out (by omega) (by omega) HG.out).mono ?_
    rintro e w4 ⟨rfl, hb⟩
    have HT4 := Lib.hid (HT.out.below hb)
    have HB4 := Lib.hid (HB3.out.trans (hb.mono HB3.out.size))
    clear hb HB3 HT
    generalize slashClass ts = O at *
    cases O with
    | false =>
      have HF2 : Hid (decdB p n = true) := Lib.hid HF.out
      clear HF HT4 HG
      go_wp2
      go_ret
      exact ⟨by rw [HF2.out]; rfl, HB4.out⟩
    | true =>
      have HF2 : Hid (decdB p n = (!n.contains 47 || decide (starRuns false ts < 2))) := Lib.hid HF.out
      clear HF
      go_wp2_with fail
      refine (slashB N n w4 HN.out).mono ?_
      rintro e w5 ⟨rfl, hb⟩
      have HT5 := Lib.hid (HT4.out.below hb)
      have HB5 := Lib.hid (HB4.out.trans (hb.mono HB4.out.size))
      clear hb HB4 HT4
      generalize n.contains 47 = O at *
      cases O with
      | false =>
        have HF3 : Hid (decdB p n = true) := Lib.hid HF2.out
        clear HF2 HT5 HG
        go_wp2
        go_ret
        exact ⟨by rw [HF3.out]; rfl, HB5.out⟩
      | true =>
        have HF3 : Hid (decdB p n = decide (starRuns false ts < 2)) := Lib.hid HF2.out
        have hsl := starRuns_le false ts
        clear HF2
        go_wp2_with fail
        refine (starRuns_call _ _ ts w5 HT5.out (by omega) (fun t ht => (HG.out t ht).1)).mono ?_
        rintro e w6 ⟨rfl, hb⟩
        have HB6 := Lib.hid (HB5.out.trans (hb.mono HB5.out.size))
        clear hb HB5 HT5 HG
        generalize starRuns false ts = R at *
        have HD : Hid (decide (((R : Nat) : Int) < 2) = decide (R < 2)) := Lib.hid (decide_eq_decide.2 (by omega))
        rw [← HD.out] at HF3
        clear HD
        go_wp2
        go_ret
        exact ⟨by rw [HF3.out]; rfl, HB6.out⟩

end Go.Proofs.YtcoaoheakeodoaaDoor

namespace Go.Proofs.YtcoaoheakeodoaaDoor
open Go.ChangeShapes Go.WideShapes Go.ChangeAt Go.RowKit

theorem quoteW_cons (c : Nat) (cs : List Nat) : quoteW (c :: cs) = 92 :: (enc c ++ quoteW cs) := by simp [quoteW]

def QuoteRel (l : Bs) (w : World) (out : Value) (w' : World) : Prop := ∃ (pos : Nat) (s : ByteArray), pos ≤ l.length ∧ out = .string s ∧ w' = w.iter ⟨l.toArray⟩ pos ∧ quoteB l = s.data.toList ++ quoteW (runes (l.drop pos)) ∧ s.size ≤ 5 * pos


end Go.Proofs.YtcoaoheakeodoaaDoor

namespace Go.Proofs.YtcoaoheakeodoaaDoor
open Go Go.Lib

/-! ### What is written is valid -/
theorem valid_enc {c : Nat} (h : sc c) : validD (enc c) = true := by
  have := valid_encs [c] (by intro x hx; simp at hx; subst hx; exact h)
  rw [encs_cons, encs_nil, List.append_nil] at this
  exact this
theorem valid_byte (b : UInt8) (h : b.toNat < 128) : validD [b] = true := by
  have := valid_enc (c := b.toNat) (.inl (by omega))
  rw [enc_byte b h] at this
  exact this
theorem valid_byte_cons (b : UInt8) (h : b.toNat < 128) {l : Bs} (hl : validD l = true) : validD (b :: l) = true := valid_app (p := [b]) (valid_byte b h) hl
theorem valid_escW {c : Nat} (h : sc c) : validD (escW c) = true := by
  unfold escW
  split
  · exact valid_byte_cons 92 (by decide) (valid_enc h)
  · exact valid_enc h
theorem valid_body : ∀ (rs : List (Nat × Nat)), (∀ r ∈ rs, sc r.1 ∧ sc r.2) → validD (bodyW rs) = true
  | [], _ => rfl
  | r :: rs, h => by
    have h1 := h r (by simp)
    refine valid_app (p := rangeW r) ?_ (valid_body rs fun x hx => h x (by simp [hx]))
    refine valid_app (valid_escW h1.1) ?_
    split
    · rfl
    · exact valid_byte_cons 45 (by decide) (valid_escW h1.2)
theorem valid_writeW {t : Tm} (h : goodTm t) : validD (writeW t) = true := by
  unfold writeW
  rcases h with ⟨k, _⟩ | ⟨k, _⟩ | ⟨k, _, _, hr⟩ | ⟨k, _, hc⟩
  · rw [if_pos k]; exact valid_byte 42 (by decide)
  · rw [if_neg (by omega), if_pos k]; exact valid_byte 63 (by decide)
  · rw [if_neg (by omega), if_neg (by omega), if_neg (by omega)]
    have hb := valid_app (valid_body t.rs hr) (valid_byte 93 (by decide))
    split
    · exact valid_byte_cons 91 (by decide) (valid_byte_cons 94 (by decide) hb)
    · exact valid_byte_cons 91 (by decide) hb
  · rw [if_neg (by omega), if_neg (by omega), if_pos k]
    split
    · exact valid_byte_cons 92 (by decide) (valid_enc hc)
    · exact valid_enc hc
theorem valid_writeA : ∀ (ts : List Tm), (∀ t ∈ ts, goodTm t) → validD (writeA ts) = true
  | [], _ => rfl
  | t :: ts, h => valid_app (p := writeW t) (valid_writeW (h t (by simp))) (valid_writeA ts fun x hx => h x (by simp [hx]))
theorem tms_write {ts : List Tm} (h : ∀ t ∈ ts, goodTm t) : Tms (writeA ts) ts := tms_parse (valid_writeA ts h) h (parse_writeA ts h)
theorem writeA_one (t : Tm) : writeA [t] = writeW t := by simp [writeA]
theorem tms_one {t : Tm} (h : goodTm t) : Tms (writeW t) [t] := by
  have := tms_write (ts := [t]) (by intro u hu; simp at hu; subst hu; exact h)
  rw [writeA_one] at this
  exact this

/-! ### Wider patterns -/
theorem mtr_one {t : Tm} (h : t.kind ≠ 0) (s : List Nat) : mtr [t] s = true ↔ ∃ c, s = [c] ∧ adm t c = true := by
  rw [mtr_cons_one h]
  constructor
  · rintro ⟨c, s', rfl, h1, h2⟩
    rw [mtr_nil] at h2
    subst h2
    exact ⟨c, rfl, h1⟩
  · rintro ⟨c, rfl, h1⟩
    exact ⟨c, [], rfl, h1, rfl⟩
theorem split_at_i {ts : List Tm} {i : Nat} {t : Tm} (h : ts[i]? = some t) : ts = ts.take i ++ [t] ++ ts.drop (i + 1) := by
  obtain ⟨hi, e⟩ := List.getElem?_eq_some_iff.1 h
  rw [List.append_assoc]
  conv => lhs; rw [← List.take_append_drop i ts, List.drop_eq_getElem_cons hi, e]
  rfl
theorem wider {p n : Bs} {ts : List Tm} (T : Tms p ts) (hs : soundB p n = true) (hm : mm p n = true) {i : Nat} {t u : Tm} {b : Bs} (ht : ts[i]? = some t) (Tu : Tms b [u]) (hw : ∀ s, mtr [t] s = true → mtr [u] s = true)
    (hd : decdB (writeA (ts.take i) ++ b ++ writeA (ts.drop (i + 1))) n = true) : mm (writeA (ts.take i) ++ b ++ writeA (ts.drop (i + 1))) n = true := by
  have hg := T.all.2.1
  have T1 := tms_write (ts := ts.take i) fun x hx => hg x (List.mem_of_mem_take hx)
  have T2 := tms_write (ts := ts.drop (i + 1)) fun x hx => hg x (List.mem_of_mem_drop hx)
  have TT := (T1.app Tu).app T2
  obtain ⟨hv, D⟩ := decd_dcd TT hd
  have h1 := law_matchSound hs hm _ T.2
  rw [split_at_i ht] at h1
  obtain ⟨x, y, e, h2, h3⟩ := (mtr_append _ _ _).1 h1
  obtain ⟨x1, x2, rfl, h4, h5⟩ := (mtr_append _ _ _).1 h2
  rw [dcd_mm TT hv D, mtr_append]
  exact ⟨x1 ++ x2, y, e, (mtr_append _ _ _).2 ⟨x1, x2, rfl, h4, hw _ h5⟩, h3⟩
theorem no_slash_one {t : Tm} (h : t.kind ≠ 0) (ha : adm t 47 = false) {s : List Nat} (hm : mtr [t] s = true) : ∃ c, s = [c] ∧ c ≠ 47 := by
  obtain ⟨c, rfl, hc⟩ := (mtr_one h s).1 hm
  refine ⟨c, rfl, ?_⟩
  rintro rfl
  rw [ha] at hc
  cases hc
/-- FnWiderAny. -/
theorem law_widerAny {p n : Bs} {ts : List Tm} (T : Tms p ts) (hs : soundB p n = true) (hm : mm p n = true) {i : Nat} {t : Tm} (ht : ts[i]? = some t) (h0 : t.kind ≠ 0) (ha : adm t 47 = false)
    (hd : decdB (writeA (ts.take i) ++ [63] ++ writeA (ts.drop (i + 1))) n = true) : mm (writeA (ts.take i) ++ [63] ++ writeA (ts.drop (i + 1))) n = true :=
  wider T hs hm ht tms_any (fun s h => (mtr_any s).2 (no_slash_one h0 ha h)) hd
/-- FnWiderStar. -/
theorem law_widerStar {p n : Bs} {ts : List Tm} (T : Tms p ts) (hs : soundB p n = true) (hm : mm p n = true) {i : Nat} {t : Tm} (ht : ts[i]? = some t) (ha : t.kind = 0 ∨ adm t 47 = false)
    (hd : decdB (writeA (ts.take i) ++ [42] ++ writeA (ts.drop (i + 1))) n = true) : mm (writeA (ts.take i) ++ [42] ++ writeA (ts.drop (i + 1))) n = true :=
  wider T hs hm ht tms_star (fun s h => by
    rw [mtr_star]
    by_cases h0 : t.kind = 0
    · obtain ⟨pre, s', rfl, h1, h2⟩ := (mtr_cons_star h0 [] s).1 h
      rw [mtr_nil] at h2
      subst h2
      rw [List.append_nil]
      exact h1
    · obtain ⟨c, rfl, hc⟩ := no_slash_one h0 (ha.resolve_left h0) h
      simpa using hc.symm) hd

/-! ### Stars between texts -/
theorem valid_right_enc {c : Nat} (hc : sc c) {y : Bs} (h : validD (enc c ++ y) = true) : validD y = true := by
  cases he : enc c ++ y with
  | nil => exact absurd (List.append_eq_nil_iff.1 he).1 (enc_ne c)
  | cons b l =>
    have hd := dec_enc hc y
    rw [he] at h hd
    have := (valid_cons h).2.1
    rw [hd] at this
    simp only at this
    rw [← he, List.drop_left] at this
    exact this
theorem valid_right {y : Bs} : ∀ (cs : List Nat), scs cs → validD (encs cs ++ y) = true → validD y = true
  | [], _, h => h
  | c :: cs, hs, h => by
    rw [encs_cons, List.append_assoc] at h
    exact valid_right cs (scs_cons.1 hs).2 (valid_right_enc (scs_cons.1 hs).1 h)
theorem valid_after {a y : Bs} (ha : validD a = true) (h : validD (a ++ y) = true) : validD y = true := by
  obtain ⟨cs, hs, rfl⟩ := (valid_iff a).1 ha
  exact valid_right cs hs h
theorem valid_before {a n : Bs} (ha : validD a = true) (h : validD (n ++ a) = true) : validD n = true := by
  obtain ⟨s1, s2⟩ := valid_runes _ _ (Nat.le_refl _) h
  exact valid_left ha _ n s1 s2.symm
theorem openStar_chars : ∀ (cs : List Nat), openStar (cs.map Tm.chr') = false
  | [] => rfl
  | [_] => rfl
  | c :: d :: cs => by
    show ((decide ((Tm.chr' c).kind = 0) && _) || openStar ((d :: cs).map Tm.chr')) = false
    rw [openStar_chars (d :: cs)]
    rfl
theorem openStar_star_chars (cs : List Nat) : openStar (Tm.star :: cs.map Tm.chr') = false := by
  cases cs with
  | nil => rfl
  | cons d cs =>
    show ((_ && (decide ((Tm.chr' d).kind = 1) || decide ((Tm.chr' d).kind = 2))) || openStar ((d :: cs).map Tm.chr')) = false
    rw [openStar_chars]
    rfl
theorem openStar_chars_app : ∀ (cs : List Nat) (us : List Tm), openStar us = false → openStar (cs.map Tm.chr' ++ us) = false
  | [], _, h => h
  | [c], us, h => by
    cases us with
    | nil => rfl
    | cons u us =>
      show ((decide ((Tm.chr' c).kind = 0) && _) || openStar (u :: us)) = false
      rw [h]
      rfl
  | c :: d :: cs, us, h => by
    show ((decide ((Tm.chr' c).kind = 0) && _) || openStar ((d :: cs).map Tm.chr' ++ us)) = false
    rw [openStar_chars_app (d :: cs) us h]
    rfl
theorem slashClass_chars (cs : List Nat) : slashClass (cs.map Tm.chr') = false := by
  unfold slashClass
  rw [List.any_eq_false]
  intro t ht
  obtain ⟨c, _, rfl⟩ := List.mem_map.1 ht
  simp
/-- FnStarBetween. -/
theorem law_starBetween {a b n : Bs} (ha : validD a = true) (hb : validD b = true) (hn : validD n = true) : bb (quoteB a ++ [42] ++ quoteB b) = false ∧ (n.length < a.length + b.length → mm (quoteB a ++ [42] ++ quoteB b) n = false) ∧
    (a.length + b.length ≤ n.length → mm (quoteB a ++ [42] ++ quoteB b) n = (a.isPrefixOf n && (b.isSuffixOf n && !((n.drop a.length).take (n.length - b.length - a.length)).contains 47))) := by
  have T := ((tms_quote ha).app tms_star).app (tms_quote hb)
  have D : Dcd ((runes a).map Tm.chr' ++ [Tm.star] ++ (runes b).map Tm.chr') (runes n) := by
    refine ⟨.inr ?_, .inl ?_⟩
    · rw [List.append_assoc]
      exact openStar_chars_app _ _ (openStar_star_chars _)
    · rw [slashClass_app, slashClass_app, slashClass_chars, slashClass_chars]
      rfl
  have key : mm (quoteB a ++ [42] ++ quoteB b) n = true ↔ ∃ M, n = a ++ M ++ b ∧ 47 ∉ M := by
    rw [dcd_mm T hn D, mtr_append]
    constructor
    · rintro ⟨x, y, e, h1, h2⟩
      obtain ⟨x1, m, rfl, h3, h4⟩ := (mtr_append _ _ _).1 h1
      rw [mtr_chars] at h2 h3
      subst h2 h3
      obtain ⟨s1, s2⟩ := valid_runes _ n (Nat.le_refl _) hn
      have sm : scs m := fun c hc => s1 c (by rw [e]; simp [hc])
      refine ⟨encs m, ?_, ?_⟩
      · rw [← s2, e, encs_append, encs_append, (valid_runes _ a (Nat.le_refl _) ha).2, (valid_runes _ b (Nat.le_refl _) hb).2]
      · have := encs_slash m sm
        intro h
        rw [mtr_star] at h4
        rw [List.contains_iff_mem.2 h] at this
        exact h4 (List.contains_iff_mem.1 this.symm)
    · rintro ⟨M, e, h47⟩
      rw [e] at hn
      have v1 := valid_before hb hn
      have v2 := valid_after ha v1
      refine ⟨runes (a ++ M), runes b, by rw [e]; exact runes_app v1 hb, ?_, (mtr_chars _ _).2 rfl⟩
      rw [runes_app ha v2, mtr_append]
      refine ⟨_, _, rfl, (mtr_chars _ _).2 rfl, ?_⟩
      rw [mtr_star]
      intro h
      have := contains_runes v2
      rw [List.contains_iff_mem.2 h] at this
      exact h47 (List.contains_iff_mem.1 this)
  refine ⟨T.all.2.2.2, fun hl => ?_, fun hl => ?_⟩
  · rw [Bool.eq_false_iff]
    intro h
    obtain ⟨M, rfl, _⟩ := key.1 h
    simp only [List.length_append] at hl
    omega
  · rw [Bool.eq_iff_iff, key]
    simp only [Bool.and_eq_true, Bool.not_eq_true']
    constructor
    · rintro ⟨M, rfl, h⟩
      refine ⟨List.isPrefixOf_iff_prefix.2 ⟨M ++ b, by rw [List.append_assoc]⟩, List.isSuffixOf_iff_suffix.2 ⟨a ++ M, rfl⟩, ?_⟩
      have e1 : (a ++ M ++ b).length - b.length - a.length = M.length := by simp only [List.length_append]; omega
      rw [e1, List.append_assoc, List.drop_left, List.take_left]
      simpa using h
    · rintro ⟨h1, h2, h3⟩
      obtain ⟨y, rfl⟩ := List.isPrefixOf_iff_prefix.1 h1
      obtain ⟨x, hx⟩ := List.isSuffixOf_iff_suffix.1 h2
      rw [List.drop_left, List.length_append] at h3
      rw [List.length_append] at hl
      have hy : y = y.take (y.length - b.length) ++ b := by
        have e := congrArg (List.drop (a.length + (y.length - b.length))) hx
        have l1 : x.length = a.length + (y.length - b.length) := by have := congrArg List.length hx; simp only [List.length_append] at this; omega
        rw [← l1, List.drop_left, l1, ← List.drop_drop, List.drop_left] at e
        have h4 := List.take_append_drop (y.length - b.length) y
        rw [← e] at h4
        exact h4.symm
      refine ⟨y.take (y.length - b.length), ?_, ?_⟩
      · rw [List.append_assoc, ← hy]
      · have e1 : a.length + y.length - b.length - a.length = y.length - b.length := by omega
        rw [e1] at h3
        simpa using h3
theorem cutK_le {n : Bs} (hv : validD n = true) {i j : Nat} (hi : i ≤ (runes n).length) (hj : j ≤ (runes n).length) (h : cutK n i ≤ cutK n j) : i ≤ j := by
  rcases Nat.le_total i j with h' | h'
  · exact h'
  · obtain ⟨_, g2, _, _, _⟩ := cut_facts hv i
    obtain ⟨_, f2, _, _, _⟩ := cut_facts hv j
    have h2 : cutK n j ≤ cutK n i := by
      unfold cutK
      have e : encs ((runes n).take i) = encs ((runes n).take j) ++ encs (((runes n).take i).drop j) := by
        rw [← encs_append]
        congr 1
        conv => lhs; rw [← List.take_append_drop j ((runes n).take i)]
        rw [List.take_take, Nat.min_eq_left h']
      rw [e, List.length_append]
      omega
    have e : cutK n i = cutK n j := by omega
    rw [e, f2] at g2
    have := congrArg List.length g2
    rw [List.length_take, List.length_take] at this
    omega
theorem cut_mid {n : Bs} (hv : validD n = true) {i j : Nat} (h : i ≤ j) : cutK n i ≤ cutK n j ∧ (n.drop (cutK n i)).take (cutK n j - cutK n i) = encs (((runes n).take j).drop i) := by
  obtain ⟨s1, s2⟩ := valid_runes _ n (Nat.le_refl _) hv
  have hmid : encs ((runes n).take j) = encs ((runes n).take i) ++ encs (((runes n).take j).drop i) := by
    rw [← encs_append]
    congr 1
    conv => lhs; rw [← List.take_append_drop i ((runes n).take j)]
    rw [List.take_take, Nat.min_eq_left h]
  refine ⟨by unfold cutK; rw [hmid, List.length_append]; omega, ?_⟩
  obtain ⟨g1, g2, _, _, _⟩ := cut_facts hv j
  have t1 : n.take (cutK n j) = encs ((runes n).take j) := by
    have := (valid_runes _ _ (Nat.le_refl _) g1).2
    rw [g2] at this
    exact this.symm
  rw [← List.drop_take, t1, hmid]
  unfold cutK
  rw [List.drop_left]
def cutF (p q n : Bs) (i j : Nat) : Bool := decide (i ≤ j) && (!((n.drop i).take (max i j - i)).contains 47 && (mm p (n.take i) && mm q (n.drop j)))
/-- FnStarCuts. -/
theorem law_starCuts {p q n : Bs} (hp : wfB p = true) (hq : wfB q = true) (hd : decdB (p ++ [42] ++ q) n = true) : mm (p ++ [42] ++ q) n = (cutsL n).any fun i => (cutsL n).any fun j => cutF p q n i j := by
  obtain ⟨ts, tp⟩ := tms_of hp
  obtain ⟨us, tq⟩ := tms_of hq
  have T := (tp.app tms_star).app tq
  obtain ⟨hv, D⟩ := decd_dcd T hd
  obtain ⟨s1, s2⟩ := valid_runes _ n (Nat.le_refl _) hv
  have dl : ∀ i, Dcd ts (runes (n.take (cutK n i))) := fun i => (D.left (r := runes n) fun c hc => hc).left fun c hc => by rw [(cut_facts hv i).2.1] at hc; exact List.mem_of_mem_take hc
  have dr : ∀ i, Dcd us (runes (n.drop (cutK n i))) := fun i => D.right fun c hc => by rw [(cut_facts hv i).2.2.2.1] at hc; exact List.mem_of_mem_drop hc
  rw [dcd_mm T hv D, Bool.eq_iff_iff, mtr_append, List.any_eq_true]
  constructor
  · rintro ⟨x, b, e, h1, h2⟩
    obtain ⟨a, m, rfl, h3, h4⟩ := (mtr_append _ _ _).1 h1
    rw [mtr_star] at h4
    have hj : (a ++ m).length ≤ (runes n).length := by rw [e]; simp only [List.length_append]; omega
    have hi : a.length ≤ (a ++ m).length := by rw [List.length_append]; omega
    obtain ⟨f1, f2, _, _, _⟩ := cut_facts hv a.length
    obtain ⟨_, _, g3, g4, _⟩ := cut_facts hv (a ++ m).length
    obtain ⟨c1, c2⟩ := cut_mid hv hi
    refine ⟨cutK n a.length, List.mem_of_getElem? (cuts_get hv _ (by omega)), List.any_eq_true.2 ⟨cutK n (a ++ m).length, List.mem_of_getElem? (cuts_get hv _ hj), ?_⟩⟩
    unfold cutF
    rw [Nat.max_eq_right c1, c2, decide_eq_true c1, dcd_mm tp f1 (dl _), dcd_mm tq g3 (dr _), f2, g4]
    have e1 : (runes n).take (a ++ m).length = a ++ m := by rw [e, List.take_left]
    have e2 : (runes n).drop (a ++ m).length = b := by rw [e, List.drop_left]
    have e3 : (runes n).take a.length = a := by rw [e, List.append_assoc, List.take_left]
    rw [e1, e2, e3, List.drop_left, h3, h2]
    have sm : scs m := fun c hc => s1 c (by rw [e]; simp [hc])
    rw [encs_slash m sm]
    simpa using h4
  · rintro ⟨x, hx, h⟩
    obtain ⟨y, hy, h⟩ := List.any_eq_true.1 h
    obtain ⟨i, hi, rfl⟩ := cuts_mem hv hx
    obtain ⟨j, hj, rfl⟩ := cuts_mem hv hy
    unfold cutF at h
    rw [Bool.and_eq_true, decide_eq_true_eq] at h
    obtain ⟨h0, h⟩ := h
    have hij := cutK_le hv hi hj h0
    obtain ⟨c1, c2⟩ := cut_mid hv hij
    obtain ⟨f1, f2, _, _, _⟩ := cut_facts hv i
    obtain ⟨_, _, g3, g4, _⟩ := cut_facts hv j
    have sm : scs (((runes n).take j).drop i) := fun c hc => s1 c (List.mem_of_mem_take (List.mem_of_mem_drop hc))
    rw [Nat.max_eq_right c1, c2, dcd_mm tp f1 (dl _), dcd_mm tq g3 (dr _), f2, g4, encs_slash _ sm, Bool.and_eq_true, Bool.and_eq_true] at h
    obtain ⟨h1, h2, h3⟩ := h
    refine ⟨(runes n).take j, (runes n).drop j, (List.take_append_drop j _).symm, ?_, h3⟩
    rw [mtr_append]
    refine ⟨(runes n).take i, ((runes n).take j).drop i, ?_, h2, ?_⟩
    · have e1 := List.take_append_drop i ((runes n).take j)
      rw [List.take_take, Nat.min_eq_left hij] at e1
      exact e1.symm
    · rw [mtr_star]
      simpa using h1

/-! ### A class alone -/
theorem mm_one {t : Tm} (h : goodTm t) (h0 : t.kind ≠ 0) {c : Nat} (hc : sc c) : mm (writeW t) (enc c) = adm t c := by
  have hr : runes (enc c) = [c] := by
    have := runes_encs [c] (by intro x hx; simp at hx; subst hx; exact hc)
    rw [encs_cons, encs_nil, List.append_nil] at this
    exact this
  have D : Dcd [t] (runes (enc c)) := ⟨.inr rfl, .inr (.inr (by
    show (if t.kind = 0 ∧ false = false then 1 else 0) + 0 < 2
    split <;> omega))⟩
  rw [dcd_mm (tms_one h) (valid_enc hc) D, hr, Bool.eq_iff_iff, mtr_one h0]
  constructor
  · rintro ⟨d, e, h⟩
    injection e with e
    subst e
    exact h
  · intro h
    exact ⟨c, rfl, h⟩
theorem good_class {t : Tm} (h : goodTm t) (k : t.kind = 2) : t = Tm.cls t.neg t.rs ∧ t.rs ≠ [] ∧ ∀ r ∈ t.rs, sc r.1 ∧ sc r.2 := by
  rcases h with ⟨h, _⟩ | ⟨h, _⟩ | ⟨_, h1⟩ | ⟨h, _⟩
  · omega
  · omega
  · exact h1
  · omega
theorem good_cls {b : Bool} {rs : List (Nat × Nat)} (h0 : rs ≠ []) (h : ∀ r ∈ rs, sc r.1 ∧ sc r.2) : goodTm (Tm.cls b rs) := .inr (.inr (.inl ⟨rfl, rfl, h0, h⟩))
/-- FnClassNot. -/
theorem law_classNot {t : Tm} (h : goodTm t) (k : t.kind = 2) {c : Nat} (hc : sc c) : mm (writeW { t with neg := !t.neg }) (enc c) = !mm (writeW t) (enc c) := by
  obtain ⟨e, h1, h2⟩ := good_class h k
  have hg : goodTm { t with neg := !t.neg } := by rw [e]; exact good_cls h1 h2
  rw [mm_one h (by omega) hc, mm_one hg (by show t.kind ≠ 0; omega) hc]
  unfold adm
  simp [k]
theorem writeW_cls (rs : List (Nat × Nat)) : writeW (Tm.cls false rs) = 91 :: (bodyW rs ++ [93]) := rfl
/-- FnClassUnion. -/
theorem law_classUnion {rs us : List (Nat × Nat)} (h0 : rs ≠ []) (h : ∀ r ∈ rs, sc r.1 ∧ sc r.2) (k0 : us ≠ []) (k : ∀ r ∈ us, sc r.1 ∧ sc r.2) {c : Nat} (hc : sc c) :
    mm (91 :: (bodyW rs ++ bodyW us ++ [93])) (enc c) = (mm (91 :: (bodyW rs ++ [93])) (enc c) || mm (91 :: (bodyW us ++ [93])) (enc c)) := by
  have e : (91 :: (bodyW rs ++ bodyW us ++ [93]) : Bs) = writeW (Tm.cls false (rs ++ us)) := by
    rw [writeW_cls]
    unfold bodyW
    rw [List.flatMap_append]
  rw [e, ← writeW_cls, ← writeW_cls, mm_one (good_cls (by simp [h0]) (fun r hr => by rcases List.mem_append.1 hr with hr | hr; exact h r hr; exact k r hr)) (by show 2 ≠ 0; decide) hc, mm_one (good_cls h0 h) (by show 2 ≠ 0; decide) hc, mm_one (good_cls k0 k) (by show 2 ≠ 0; decide) hc]
  simp [adm, inR]

/-! ### Turned around -/
theorem mtr_rev_one (t : Tm) (s : List Nat) (h : mtr [t] s = true) : mtr [t] s.reverse = true := by
  by_cases h0 : t.kind = 0
  · obtain ⟨pre, s', rfl, h1, h2⟩ := (mtr_cons_star h0 [] s).1 h
    rw [mtr_nil] at h2
    subst h2
    rw [List.append_nil, mtr_cons_star h0]
    exact ⟨pre.reverse, [], (List.append_nil _).symm, by simpa using h1, rfl⟩
  · obtain ⟨c, rfl, hc⟩ := (mtr_one h0 s).1 h
    exact h
theorem mtr_rev : ∀ (ts : List Tm) (s : List Nat), mtr ts s = true → mtr ts.reverse s.reverse = true
  | [], s, h => by
    rw [mtr_nil] at h
    subst h
    rfl
  | t :: ts, s, h => by
    obtain ⟨a, b, rfl, h1, h2⟩ := (mtr_append [t] ts s).1 h
    rw [List.reverse_cons, List.reverse_append, mtr_append]
    exact ⟨_, _, rfl, mtr_rev ts b h2, mtr_rev_one t a h1⟩
/-- FnTurned. -/
theorem law_turned {p n q m : Bs} {ts : List Tm} (T : Tms p ts) (hd : decdB p n = true) (hq : q = writeA ts.reverse) (hm : m = encs (runes n).reverse) (he : decdB q m = true) : mm p n = mm q m := by
  subst hq hm
  have hg : ∀ t ∈ ts.reverse, goodTm t := fun t ht => T.all.2.1 t (List.mem_reverse.1 ht)
  have T2 := tms_write hg
  obtain ⟨v1, D1⟩ := decd_dcd T hd
  obtain ⟨v2, D2⟩ := decd_dcd T2 he
  obtain ⟨s1, _⟩ := valid_runes _ n (Nat.le_refl _) v1
  have hr : runes (encs (runes n).reverse) = (runes n).reverse := runes_encs _ fun c hc => s1 c (List.mem_reverse.1 hc)
  rw [dcd_mm T v1 D1, dcd_mm T2 v2 D2, hr, Bool.eq_iff_iff]
  constructor
  · exact mtr_rev ts _
  · intro h
    have := mtr_rev _ _ h
    rw [List.reverse_reverse, List.reverse_reverse] at this
    exact this

/-! ### Parts of terms that are read -/
theorem TmsRd.take {lo : Nat} {w : World} {a : Option Addr} {cap : Nat} {ts : List Tm} (h : TmsRd lo w (.slice a ts.length cap) ts) (k : Nat) (hk : k ≤ ts.length) : TmsRd lo w (.slice a k cap) (ts.take k) := by
  obtain ⟨a', cap', e, h1, h2⟩ := h
  injection e with e1 _ e3
  subst e1 e3
  have hl : (ts.take k).length = k := by rw [List.length_take]; omega
  refine ⟨a, cap, by rw [hl], by omega, fun j t hj => h2 j t ?_⟩
  rw [List.getElem?_take] at hj
  split at hj
  · exact hj
  · cases hj
theorem TmsRd.drop {lo : Nat} {w : World} {g o : Nat} {cap : Nat} {ts : List Tm} (h : TmsRd lo w (.slice (some ⟨g, o, none⟩) ts.length cap) ts) (k : Nat) (cap2 : Nat) (hc : ts.length - k ≤ cap2) : TmsRd lo w (.slice (some ⟨g, o + k * 4, none⟩) (ts.length - k) cap2) (ts.drop k) := by
  obtain ⟨a', cap', e, h1, h2⟩ := h
  injection e with e1 _ e3
  subst e1 e3
  have hl : (ts.drop k).length = ts.length - k := by rw [List.length_drop]
  refine ⟨some ⟨g, o + k * 4, none⟩, cap2, by rw [hl], by omega, fun j t hj => ?_⟩
  rw [List.getElem?_drop] at hj
  obtain ⟨g', o', rv, e, h3, h4, c1, c2, c3, c4, hr⟩ := h2 (k + j) t hj
  injection e with e
  injection e with e1 e2
  subst e1 e2
  refine ⟨g, o + k * 4, rv, rfl, h3, h4, ?_, ?_, ?_, ?_, hr⟩
  all_goals
    have e : o + k * 4 + j * 4 = o + (k + j) * 4 := by omega
    rw [e]
    assumption
end Go.Proofs.YtcoaoheakeodoaaDoor

namespace Go.Proofs.YtcoaoheakeodoaaDoor
open Go.ChangeShapes Go.WideShapes Go.ChangeAt Go.RowKit



end Go.Proofs.YtcoaoheakeodoaaDoor

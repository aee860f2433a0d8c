/-
  spec.Ascii, spec.Stars, spec.SlashTerms, spec.OpenStar, spec.Sound: contracts. Conditions: none beyond those of each theorem.
-/
import Derived.Test.YtnjinkbhepimkaaDoorReadD
import Derived.Test.YtnjinkbhepimkaaDoorWfT
namespace Go.Proofs.YtnjinkbhepimkaaDoor
open Go.ChangeShapes Go.WideShapes Go.ChangeAt Go.RowKit

def ascB (l : Bs) : Bool := l.all fun b => decide (b.toNat < 128)
def AscRel (l : Bs) (w : World) (i : Value) (wr : World) : Prop := ∃ k : Nat, i = .int .i64 (k : Nat) ∧ k ≤ l.length ∧ ascB l = ascB (l.drop k) ∧ w = wr

theorem ascii_call (P : ByteArray) (l : Bs) (w : World) (hP : P.data.toList = l) (hl : l.length ≤ 100000000) :
    Calls Tryd.prog 51 #[.string P] w fun e w' => e = .returned (.bool (ascB l)) ∧ w = w' := by
  rw [str_eq hP]
  clear hP
  go_enter Tryd.func51, Tryd.ntmps51
  go_wp2
  go_loopw [3] (fun i wr => AscRel l w i wr) (fun i _ => l.length - (intOf i).toNat)
  case atStart => exact ⟨0, rfl, by omega, rfl, rfl⟩
  case round =>
    obtain ⟨k, rfl, hk, ha, rfl⟩ := hrel
    have HA := Lib.hid ha
    clear ha
    by_cases hkl : k < l.length
    · have HN : Hid (ascB l = (decide ((l[k]).toNat < 128) && ascB (l.drop (k + 1)))) := Lib.hid (by
        rw [HA.out, List.drop_eq_getElem_cons hkl]
        rfl)
      have hsz : k < (⟨l.toArray⟩ : ByteArray).size := hkl
      have HG : Hid ((⟨l.toArray⟩ : ByteArray)[k] = l[k]) := Lib.hid rfl
      clear HA
      by_cases hb : (l[k]).toNat < 128
      · have hb2 : ¬ (128 : Int) ≤ ((((⟨l.toArray⟩ : ByteArray)[k]).toNat : Nat) : Int) := by rw [HG.out]; omega
        have HF : Hid (ascB l = ascB (l.drop (k + 1))) := Lib.hid (by rw [HN.out, decide_eq_true hb, Bool.true_and])
        clear HN hb HG
        go_wp2
        go_roundw
        case rel => exact ⟨k + 1, by go_num, by omega, HF.out, rfl⟩
        case measure => simp [intOf]; omega
      · have hb2 : (128 : Int) ≤ ((((⟨l.toArray⟩ : ByteArray)[k]).toNat : Nat) : Int) := by rw [HG.out]; omega
        have HF : Hid (ascB l = false) := Lib.hid (by rw [HN.out, decide_eq_false hb, Bool.false_and])
        clear HN hb HG
        go_wp2
        go_ret
        exact ⟨by rw [HF.out]; rfl, rfl⟩
    · have HF : Hid (ascB l = true) := Lib.hid (by rw [HA.out, List.drop_eq_nil_of_le (by omega)]; rfl)
      clear HA
      go_wp2
      go_ret
      exact ⟨by rw [HF.out]; rfl, rfl⟩

def starN (ts : List Tm) : Nat := (ts.filter fun t => decide (t.kind = 0)).length
theorem starN_le (ts : List Tm) : starN ts ≤ ts.length := List.length_filter_le _ _
theorem starN_snoc (ts : List Tm) (t : Tm) : starN (ts ++ [t]) = starN ts + if t.kind = 0 then 1 else 0 := by
  unfold starN
  rw [List.filter_append, List.length_append]
  by_cases h : t.kind = 0 <;> simp [h]
def CountRel (f : List Tm → Nat) (ts : List Tm) (w : World) (n i : Value) (wr : World) : Prop := ∃ k : Nat, i = .int .i64 (k : Nat) ∧ k ≤ ts.length ∧ n = .int .i64 (f (ts.take k) : Nat) ∧ ∃ q, wr = w.drewN q


def openAt (ts : List Tm) (k : Nat) : Bool := openStar (ts.drop k)
theorem open_step {ts : List Tm} {k : Nat} {a b : Tm} (ha : ts[k]? = some a) (hb : ts[k + 1]? = some b) : openAt ts k = ((decide (a.kind = 0) && (decide (b.kind = 1) || decide (b.kind = 2))) || openAt ts (k + 1)) := by
  obtain ⟨h1, e1⟩ := List.getElem?_eq_some_iff.1 ha
  obtain ⟨h2, e2⟩ := List.getElem?_eq_some_iff.1 hb
  unfold openAt
  rw [List.drop_eq_getElem_cons h1, List.drop_eq_getElem_cons h2, e1, e2]
  rfl
theorem open_end {ts : List Tm} {k : Nat} (h : ts.length ≤ k + 1) : openAt ts k = false := by
  unfold openAt
  have : (ts.drop k).length ≤ 1 := by rw [List.length_drop]; omega
  generalize ts.drop k = l at this
  cases l with
  | nil => rfl
  | cons a l =>
    cases l with
    | nil => rfl
    | cons b l => simp at this
def OpenRel (ts : List Tm) (w : World) (i : Value) (wr : World) : Prop := ∃ k : Nat, i = .int .i64 ((k + 1 : Nat) : Int) ∧ (k + 1 ≤ ts.length ∨ k = 0) ∧ openStar ts = openAt ts k ∧ ∃ q, wr = w.drewN q

set_option maxHeartbeats 1000000 in
theorem openStar_call (lo : Nat) (v : Value) (ts : List Tm) (w : World) (h : TmsRd lo w v ts) (hl : ts.length ≤ 100000000) (hk : ∀ t ∈ ts, t.kind ≤ 100) :
    Calls Tryd.prog 52 #[v] w fun e w' => e = .returned (.bool (openStar ts)) ∧ Below w.heap.size w w' := by
  obtain ⟨a, cap, rfl, hcap, hcells⟩ := h
  have HC := Lib.hid hcells
  have HK := Lib.hid hk
  clear hcells hk
  go_enter Tryd.func52, Tryd.ntmps52
  go_wp2
  go_loopw [3] (fun i wr => OpenRel ts w i wr) (fun i _ => ts.length + 1 - (intOf i).toNat)
  case atStart => exact ⟨0, rfl, .inr rfl, rfl, 0, rfl⟩
  case round =>
    obtain ⟨k, rfl, hkl, ho, q, rfl⟩ := hrel
    have HO := Lib.hid ho
    clear ho
    have ek : ((k + 1 : Nat) : Int) = (k : Int) + 1 := by omega
    rw [ek]
    clear ek
    by_cases hlt : k + 1 < ts.length
    · obtain ⟨x, hx⟩ : ∃ t, ts[k]? = some t := ⟨_, List.getElem?_eq_getElem (by omega)⟩
      obtain ⟨y, hy⟩ : ∃ t, ts[k + 1]? = some t := ⟨_, List.getElem?_eq_getElem hlt⟩
      obtain ⟨g, o, rv, rfl, hlo, hltg, c0, _, _, _, _⟩ := HC.out k x hx
      obtain ⟨g', o', rv', e', _, _, d0, _, _, _, _⟩ := HC.out (k + 1) y hy
      injection e' with e'
      injection e' with e1 e2
      subst e1
      subst e2
      have hkx := HK.out x (List.mem_of_getElem? hx)
      have hky := HK.out y (List.mem_of_getElem? hy)
      have HS := Lib.hid (open_step hx hy)
      obtain ⟨xk, xc, xn, xrs⟩ := x
      obtain ⟨yk, yc, yn, yrs⟩ := y
      simp only at c0 d0 hkx hky
      clear HC HK hx hy
      have hi1 : (0 : Int) ≤ (k : Int) := by omega
      by_cases h0 : xk = 0
      · subst h0
        by_cases h12 : yk = 1 ∨ yk = 2
        · have HF : Hid (openStar ts = true) := Lib.hid (by
            rw [HO.out, HS.out]
            show ((true && (decide (yk = 1) || decide (yk = 2))) || _) = true
            rcases h12 with h | h <;> subst h <;> rfl)
          clear HS HO
          rcases h12 with rfl | rfl
          all_goals
            go_wp2
            go_ret
            exact ⟨by rw [HF.out]; rfl, below_drewN (Below.refl _ w) q⟩
        · have b1 : (((yk : Nat) : Int) == 1) = false := by simp; omega
          have b2 : (((yk : Nat) : Int) == 2) = false := by simp; omega
          have HF : Hid (openStar ts = openAt ts (k + 1)) := Lib.hid (by
            rw [HO.out, HS.out]
            show ((true && (decide (yk = 1) || decide (yk = 2))) || _) = _
            rw [decide_eq_false (fun h => h12 (.inl h)), decide_eq_false (fun h => h12 (.inr h))]
            rfl)
          clear HS HO h12
          go_wp2
          go_roundw
          case rel => exact ⟨k + 1, by go_num, .inl (by omega), HF.out, q, rfl⟩
          case measure => simp [intOf]; omega
      · have b0 : (((xk : Nat) : Int) == 0) = false := by simp; omega
        have HF : Hid (openStar ts = openAt ts (k + 1)) := Lib.hid (by
          rw [HO.out, HS.out]
          show ((decide (xk = 0) && _) || _) = _
          rw [decide_eq_false h0]
          rfl)
        clear HS HO h0
        go_wp2
        go_roundw
        case rel => exact ⟨k + 1, by go_num, .inl (by omega), HF.out, q, rfl⟩
        case measure => simp [intOf]; omega
    · have HF : Hid (openStar ts = false) := Lib.hid (by rw [HO.out, open_end (by omega)])
      have hlt2 : ¬ ((k : Int) + 1 < (ts.length : Int)) := by omega
      clear HC HK HO
      go_wp2
      go_ret
      exact ⟨by rw [HF.out]; rfl, below_drewN (Below.refl _ w) q⟩

/-- spec.Sound. -/
def soundB (p n : Bs) : Bool := wfB p && (Lib.validD n && (ascB n || !(match readR (runes p) with | .good ts => openStar ts | .bad _ => false)))

set_option maxHeartbeats 1000000 in
theorem soundCB (ae : Addr) (P N : ByteArray) (p n : Bs) (w : World) (hE : Env ae w) (hP : P.data.toList = p) (hN : N.data.toList = n) (hp : p.length ≤ 100000000) (hn : n.length ≤ 100000000) :
    Calls Tryd.prog 28 #[.string P, .string N] w fun e w' => e = .returned (.bool (soundB p n)) ∧ Below w.heap.size w w' := by
  have HE := Lib.hid hE
  have HP := Lib.hid hP
  have HN := Lib.hid hN
  have hfd := fld0
  clear hE hP hN
  go_enter Tryd.func28, Tryd.ntmps28
  go_wp2_with fail
  refine (wellFormedB ae P p w HE.out HP.out hp).mono ?_
  rintro e w1 ⟨rfl, hb⟩
  have HE1 := Lib.hid (HE.out.on hb)
  have HB1 := Lib.hid hb
  clear hb HE
  generalize hW : wfB p = W
  have HW := Lib.hid hW
  clear hW
  cases W with
  | false =>
    have HF : Hid (soundB p n = false) := Lib.hid (by unfold soundB; rw [HW.out]; rfl)
    clear HW
    go_wp2
    go_ret
    exact ⟨by rw [HF.out]; rfl, HB1.out⟩
  | true =>
    go_wp2_with fail
    refine (validStr ae N n w1 HE1.out HN.out hn).mono ?_
    rintro e w2 ⟨rfl, hb⟩
    have HE2 := Lib.hid (HE1.out.on hb)
    have HB2 := Lib.hid (HB1.out.trans (hb.mono HB1.out.size))
    clear hb HE1 HB1
    generalize hV : Lib.validD n = V
    have HV := Lib.hid hV
    clear hV
    cases V with
    | false =>
      have HF : Hid (soundB p n = false) := Lib.hid (by unfold soundB; rw [HW.out, HV.out]; rfl)
      clear HW HV
      go_wp2
      go_ret
      exact ⟨by rw [HF.out]; rfl, HB2.out⟩
    | true =>
      go_wp2_with fail
      refine (ascii_call N n w2 HN.out hn).mono ?_
      rintro e w' ⟨rfl, rfl⟩
      generalize hA : ascB n = A
      have HA := Lib.hid hA
      clear hA
      cases A with
      | true =>
        have HF : Hid (soundB p n = true) := Lib.hid (by unfold soundB; rw [HW.out, HV.out, HA.out]; rfl)
        clear HW HV HA
        go_wp2
        go_ret
        exact ⟨by rw [HF.out]; rfl, HB2.out⟩
      | false =>
        obtain ⟨ts, hrd, _, hgood, _, _⟩ := wf_terms HW.out
        have hwt := read_weight' p ts hrd
        have hwl := weight_len ts
        have HG : Hid (∀ t ∈ ts, t.kind ≤ 100) := Lib.hid (fun t ht => (good_ok (hgood t ht)).1)
        have HRD := Lib.hid hrd
        have HF : Hid (soundB p n = !openStar ts) := Lib.hid (by unfold soundB; rw [HW.out, HV.out, HA.out, hrd]; rfl)
        clear HW HV HA hrd hgood
        go_wp2_with fail
        refine (readB P p w2 HP.out hp).mono ?_
        rintro e w3 ⟨hb, va, vn, vc, rfl, hts⟩
        obtain ⟨rfl, htm⟩ := hts ts HRD.out
        have HT := Lib.hid htm
        have HB3 := Lib.hid (HB2.out.trans (hb.mono HB2.out.size))
        generalize rdOk p = OK
        generalize rdSet p = ST
        clear hb HE2 HB2 HRD hts htm
        go_wp2_with fail
        refine (openStar_call _ _ ts w3 HT.out (by omega) HG.out).mono ?_
        rintro e w4 ⟨rfl, hb⟩
        have HB4 := Lib.hid (HB3.out.trans (hb.mono HB3.out.size))
        generalize openStar ts = O at *
        clear hb HB3 HT HG
        cases O
        all_goals
          go_wp2
          go_ret
          exact ⟨by rw [HF.out]; rfl, HB4.out⟩

end Go.Proofs.YtnjinkbhepimkaaDoor

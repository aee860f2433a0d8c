/-
  strings.Contains at one byte, strings.HasPrefix, strings.HasSuffix; spec.SlashTerms, spec.SlashClass, spec.NoSlash, spec.StarRuns, spec.Decided: contracts. Conditions: none beyond those of each theorem.
-/
import Derived.Test.YtpkhcndhckocnaaDoorLawD
import Derived.Test.YtpkhcndhckocnaaDoorAdmits
namespace Go.Proofs.YtpkhcndhckocnaaDoor
open Go.ChangeShapes Go.WideShapes Go.ChangeAt Go.RowKit

theorem index_contains (l : Bs) (c : UInt8) : decide (0 ≤ Lib.indexByte l c) = l.contains c := by
  have h := indexByte_neg l c
  cases hc : l.contains c with
  | false => exact decide_eq_false (by have := h.2 hc; omega)
  | true =>
    refine decide_eq_true ?_
    have : ¬ Lib.indexByte l c < 0 := fun x => by rw [h.1 x] at hc; cases hc
    omega

theorem slashB (P : ByteArray) (p : Bs) (w : World) (hP : P.data.toList = p) :
    Calls Tryd.prog 25 #[.string P, .string ⟨#[47]⟩] w fun e w' => e = .returned (.bool (p.contains 47)) ∧ Below w.heap.size w w' := by
  refine (Tryd.strings_Contains_one P 47 w).mono ?_
  rintro e w' ⟨rfl, rfl⟩
  rw [hP, index_contains]
  exact ⟨rfl, Below.refl _ _⟩



def lastStar : Bool → List Tm → Bool
  | b, [] => b
  | _, t :: ts => lastStar (decide (t.kind = 0)) ts
theorem starRuns_snoc (t : Tm) : ∀ (b : Bool) (ts : List Tm), starRuns b (ts ++ [t]) = starRuns b ts + if t.kind = 0 ∧ lastStar b ts = false then 1 else 0
  | b, [] => by
    show (if t.kind = 0 ∧ b = false then 1 else 0) + 0 = 0 + if t.kind = 0 ∧ b = false then 1 else 0
    rw [Nat.add_zero, Nat.zero_add]
  | b, u :: ts => by
    rw [List.cons_append]
    show _ + starRuns (decide (u.kind = 0)) (ts ++ [t]) = _ + starRuns (decide (u.kind = 0)) ts + if t.kind = 0 ∧ lastStar (decide (u.kind = 0)) ts = false then 1 else 0
    rw [starRuns_snoc t _ ts, Nat.add_assoc]
theorem lastStar_snoc (u : Tm) : ∀ (b : Bool) (ts : List Tm), lastStar b (ts ++ [u]) = decide (u.kind = 0)
  | _, [] => rfl
  | _, _ :: ts => lastStar_snoc u _ ts
theorem starRuns_le : ∀ (b : Bool) (ts : List Tm), starRuns b ts ≤ ts.length
  | _, [] => Nat.le_refl _
  | b, t :: ts => by
    have := starRuns_le (decide (t.kind = 0)) ts
    unfold starRuns
    rw [List.length_cons]
    split <;> omega

set_option maxHeartbeats 1000000 in
theorem starRuns_call (lo : Nat) (v : Value) (ts : List Tm) (w : World) (h : TmsRd lo w v ts) (hl : ts.length ≤ 100000000) (hk : ∀ t ∈ ts, t.kind ≤ 100) :
    Calls Tryd.prog 40 #[v] w fun e w' => e = .returned (.int .i64 (starRuns false ts : Nat)) ∧ Below w.heap.size w w' := by
  obtain ⟨a, cap, rfl, hcap, hcells⟩ := h
  have HC := Lib.hid hcells
  have HK := Lib.hid hk
  clear hcells hk
  go_enter Tryd.func40, Tryd.ntmps40
  go_wp2
  go_loopw [3, 4] (fun n i wr => CountRel (starRuns false) ts w n i wr) (fun _ i _ => ts.length - (intOf i).toNat)
  case atStart => exact ⟨0, rfl, by omega, rfl, 0, rfl⟩
  case round =>
    obtain ⟨k, rfl, hkl, rfl, q, rfl⟩ := hrel
    have hs1 := starRuns_le false (ts.take k)
    have hs2 : (ts.take k).length ≤ k := List.length_take_le _ _
    by_cases hlt : k < ts.length
    · obtain ⟨t, ht⟩ : ∃ t, ts[k]? = some t := ⟨_, List.getElem?_eq_getElem hlt⟩
      obtain ⟨g, o, rv, rfl, hlo, hltg, c0, _, _, _, _⟩ := HC.out k t ht
      have hk100 := HK.out t (List.mem_of_getElem? ht)
      have HN : Hid (starRuns false (ts.take (k + 1)) = starRuns false (ts.take k) + if t.kind = 0 ∧ lastStar false (ts.take k) = false then 1 else 0) := Lib.hid (by rw [List.take_add_one, ht]; exact starRuns_snoc _ _ _)
      obtain ⟨tk, tc, tn, trs⟩ := t
      simp only at c0 hk100
      by_cases h0 : tk = 0
      · subst h0
        cases k with
        | zero =>
          have HF : Hid (starRuns false (ts.take (0 + 1)) = 1) := Lib.hid HN.out
          clear HN HC HK ht hs1 hs2
          rw [show starRuns false (ts.take 0) = 0 from rfl]
          simp only [Nat.zero_mul, Nat.add_zero] at c0
          go_wp2
          go_roundw
          case rel => exact ⟨0 + 1, by go_num, by omega, by rw [HF.out]; first | rfl | go_num, q, rfl⟩
          case measure => simp [intOf]; omega
        | succ j =>
          obtain ⟨u, hu⟩ : ∃ t, ts[j]? = some t := ⟨_, List.getElem?_eq_getElem (by omega)⟩
          obtain ⟨g', o', rv', e', _, _, d0, _, _, _, _⟩ := HC.out j u hu
          injection e' with e'
          injection e' with e1 e2
          subst e1
          subst e2
          have hku := HK.out u (List.mem_of_getElem? hu)
          have HL : Hid (lastStar false (ts.take (j + 1)) = decide (u.kind = 0)) := Lib.hid (by rw [List.take_add_one, hu]; exact lastStar_snoc _ _ _)
          obtain ⟨uk, uc, un, urs⟩ := u
          simp only at d0 hku
          have ek : ((j + 1 : Nat) : Int) = (j : Int) + 1 := by omega
          rw [ek]
          clear ek HC HK ht hu
          have hj0 : (((j : Int) + 1) == 0) = false := by simp; omega
          have hj1 : (0 : Int) ≤ (j : Int) := by omega
          by_cases hu0 : uk = 0
          · subst hu0
            have HF : Hid (starRuns false (ts.take (j + 1 + 1)) = starRuns false (ts.take (j + 1))) := Lib.hid (by rw [HN.out, if_neg (fun x => by have := x.2; rw [HL.out] at this; cases this)]; rfl)
            clear HN HL
            go_wp2
            go_roundw
            case rel => exact ⟨j + 1 + 1, by go_num, by omega, by rw [HF.out], q, rfl⟩
            case measure => simp [intOf]; omega
          · have b0 : (((uk : Nat) : Int) != 0) = true := by simp; omega
            have HF : Hid (starRuns false (ts.take (j + 1 + 1)) = starRuns false (ts.take (j + 1)) + 1) := Lib.hid (by rw [HN.out, if_pos ⟨rfl, by rw [HL.out]; exact decide_eq_false hu0⟩])
            clear HN HL hu0
            go_wp2
            go_roundw
            case rel => exact ⟨j + 1 + 1, by go_num, by omega, by rw [HF.out]; go_num, q, rfl⟩
            case measure => simp [intOf]; omega
      · have b0 : (((tk : Nat) : Int) == 0) = false := by simp; omega
        have HF : Hid (starRuns false (ts.take (k + 1)) = starRuns false (ts.take k)) := Lib.hid (by rw [HN.out, if_neg (fun x => h0 x.1)]; rfl)
        clear HN h0 HC HK ht
        go_wp2
        go_roundw
        case rel => exact ⟨k + 1, by go_num, by omega, by rw [HF.out], q, rfl⟩
        case measure => simp [intOf]; omega
    · obtain rfl : k = ts.length := by omega
      clear HC HK
      rw [List.take_length]
      go_wp2
      go_ret
      exact ⟨rfl, below_drewN (Below.refl _ w) q⟩

def SlashRel (ts : List Tm) (w : World) (i : Value) (wr : World) : Prop := ∃ k : Nat, i = .int .i64 (k : Nat) ∧ k ≤ ts.length ∧ slashClass ts = slashClass (ts.drop k) ∧ Below w.heap.size w wr

set_option maxHeartbeats 2000000 in
theorem slashClass_call (lo : Nat) (v : Value) (ts : List Tm) (w : World) (h : TmsRd lo w v ts) (hl : ts.length ≤ 100000000) (hw : weight ts ≤ 100000000) (hk : ∀ t ∈ ts, okNum t) :
    Calls Tryd.prog 39 #[v] w fun e w' => e = .returned (.bool (slashClass ts)) ∧ Below w.heap.size w w' := by
  have HT := Lib.hid h
  have HG := Lib.hid hk
  obtain ⟨a, cap, rfl, hcap, _⟩ := h
  clear hk
  go_enter Tryd.func39, Tryd.ntmps39
  go_wp2
  go_loopw [3] (fun i wr => SlashRel ts w i wr) (fun i _ => ts.length - (intOf i).toNat)
  case atStart => exact ⟨0, rfl, by omega, rfl, Below.refl _ _⟩
  case round =>
    obtain ⟨k, rfl, hkl, ho, hb⟩ := hrel
    have HO := Lib.hid ho
    have HB := Lib.hid hb
    clear ho hb
    by_cases hlt : k < ts.length
    · obtain ⟨t, htk⟩ : ∃ t, ts[k]? = some t := ⟨_, List.getElem?_eq_getElem hlt⟩
      obtain ⟨a', cap', e', _, hcells⟩ := HT.out.below HB.out
      obtain ⟨g, o, rv, rfl, hlo, hltg, c1, c2, c3, c4, hrg⟩ := hcells k t htk
      injection e' with e1 e2 e3
      subst e1
      clear e2 e3 hcells
      obtain ⟨n1, n2, n3⟩ := HG.out t (List.mem_of_getElem? htk)
      have hwtk : t.rs.length ≤ weight ts := weight_at htk
      have HN : Hid (slashClass ts = ((decide (t.kind = 2) && adm t 47) || slashClass (ts.drop (k + 1)))) := Lib.hid (by
        rw [HO.out, List.drop_eq_getElem_cons hlt]
        rw [List.getElem?_eq_getElem hlt] at htk
        injection htk with htk
        rw [htk]
        rfl)
      clear HO
      by_cases h2 : t.kind = 2
      · have hcall := Lib.hid (fun w1 (hb1 : Below wr.heap.size wr w1) => admits_call _ t rv 47 w1 (hrg.below hb1) n1 (by omega) (by omega) n3)
        have HN2 : Hid (slashClass ts = (adm t 47 || slashClass (ts.drop (k + 1)))) := Lib.hid (by rw [HN.out, decide_eq_true h2, Bool.true_and])
        obtain ⟨ra, rcap, rfl, _⟩ := hrg
        clear HN HG htk n3
        generalize adm t 47 = AD at *
        obtain ⟨tk, tc, tn, trs⟩ := t
        simp only at c1 c2 c3 c4 n1 n2 hwtk hcall h2
        subst h2
        go_wp2_with fail
        refine (hcall.out _ (Below.refl _ _)).mono ?_
        rintro e w' ⟨rfl, hb⟩
        have HB2 := Lib.hid (HB.out.trans (hb.mono HB.out.size))
        clear hb hcall
        cases AD with
        | true =>
          have HF : Hid (slashClass ts = true) := Lib.hid HN2.out
          clear HN2
          go_wp2
          go_ret
          exact ⟨by rw [HF.out]; rfl, HB2.out⟩
        | false =>
          have HF : Hid (slashClass ts = slashClass (ts.drop (k + 1))) := Lib.hid HN2.out
          clear HN2
          go_wp2
          go_roundw
          case rel => exact ⟨k + 1, by go_num, by omega, HF.out, HB2.out⟩
          case measure => simp [intOf]; omega
      · have b2 : (((t.kind : Nat) : Int) == 2) = false := by simp; omega
        have HF : Hid (slashClass ts = slashClass (ts.drop (k + 1))) := Lib.hid (by rw [HN.out, decide_eq_false h2]; rfl)
        clear HN HG htk n3 hrg h2
        obtain ⟨tk, tc, tn, trs⟩ := t
        simp only at c1 c2 c3 c4 n1 n2 hwtk b2
        go_wp2
        go_roundw
        case rel => exact ⟨k + 1, by go_num, by omega, HF.out, HB.out⟩
        case measure => simp [intOf]; omega
    · have HF : Hid (slashClass ts = false) := Lib.hid (by rw [HO.out, List.drop_eq_nil_of_le (by omega)]; rfl)
      have hlt2 : ¬ ((k : Int) < (ts.length : Int)) := by omega
      clear HO HT HG
      go_wp2
      go_ret
      exact ⟨by rw [HF.out]; rfl, HB.out⟩


set_option maxHeartbeats 1000000 in
theorem decidedCB (ae : Addr) (P N : ByteArray) (p n : Bs) (w : World) (hE : Env ae w) (hP : P.data.toList = p) (hN : N.data.toList = n) (hp : p.length ≤ 100000000) (hn : n.length ≤ 100000000) :
    Calls Tryd.prog 18 #[.string P, .string N] w fun e w' => e = .returned (.bool (decdB p n)) ∧ Below w.heap.size w w' := by
  have HE := Lib.hid hE
  have HP := Lib.hid hP
  have HN := Lib.hid hN
  have hfd := fld0
  clear hE hP hN
  go_enter Tryd.func18, Tryd.ntmps18
  go_wp2_with fail
  refine (soundCB ae P N p n w HE.out HP.out HN.out hp hn).mono ?_
  rintro e w1 ⟨rfl, hb⟩
  have HB1 := Lib.hid hb
  clear hb HE
  generalize hW : soundB p n = W
  have HW := Lib.hid hW
  clear hW
  cases W with
  | false =>
    have HF : Hid (decdB p n = false) := Lib.hid (by unfold decdB; rw [HW.out]; rfl)
    clear HW
    go_wp2
    go_ret
    exact ⟨by rw [HF.out]; rfl, HB1.out⟩
  | true =>
    have hwf : wfB p = true := by
      have h := HW.out
      unfold soundB at h
      rw [Bool.and_eq_true] at h
      exact h.1
    obtain ⟨ts, hrd, _, hgood, _, _⟩ := wf_terms hwf
    have hwt := read_weight' p ts hrd
    have hwl := weight_len ts
    have HG : Hid (∀ t ∈ ts, okNum t) := Lib.hid (fun t ht => good_ok (hgood t ht))
    have HRD := Lib.hid hrd
    have HF : Hid (decdB p n = (!slashClass ts || (!n.contains 47 || decide (starRuns false ts < 2)))) := Lib.hid (by unfold decdB; rw [HW.out, hrd]; rfl)
    clear HW hrd hgood hwf
    go_wp2_with fail
    refine (readB P p w1 HP.out hp).mono ?_
    rintro e w3 ⟨hb, va, vn, vc, rfl, hts⟩
    obtain ⟨rfl, htm⟩ := hts ts HRD.out
    have HT := Lib.hid htm
    have HB3 := Lib.hid (HB1.out.trans (hb.mono HB1.out.size))
    generalize rdOk p = OK
    generalize rdSet p = ST
    clear hb HB1 HRD hts htm
    go_wp2_with fail
    refine (slashClass_call _ _ ts w3 HT.out (by omega) (by omega) HG.out).mono ?_
    rintro e w4 ⟨rfl, hb⟩
    have HT4 := Lib.hid (HT.out.below hb)
    have HB4 := Lib.hid (HB3.out.trans (hb.mono HB3.out.size))
    clear hb HB3 HT
    generalize slashClass ts = O at *
    cases O with
    | false =>
      have HF2 : Hid (decdB p n = true) := Lib.hid HF.out
      clear HF HT4 HG
      go_wp2
      go_ret
      exact ⟨by rw [HF2.out]; rfl, HB4.out⟩
    | true =>
      have HF2 : Hid (decdB p n = (!n.contains 47 || decide (starRuns false ts < 2))) := Lib.hid HF.out
      clear HF
      go_wp2_with fail
      refine (slashB N n w4 HN.out).mono ?_
      rintro e w5 ⟨rfl, hb⟩
      have HT5 := Lib.hid (HT4.out.below hb)
      have HB5 := Lib.hid (HB4.out.trans (hb.mono HB4.out.size))
      clear hb HB4 HT4
      generalize n.contains 47 = O at *
      cases O with
      | false =>
        have HF3 : Hid (decdB p n = true) := Lib.hid HF2.out
        clear HF2 HT5 HG
        go_wp2
        go_ret
        exact ⟨by rw [HF3.out]; rfl, HB5.out⟩
      | true =>
        have HF3 : Hid (decdB p n = decide (starRuns false ts < 2)) := Lib.hid HF2.out
        have hsl := starRuns_le false ts
        clear HF2
        go_wp2_with fail
        refine (starRuns_call _ _ ts w5 HT5.out (by omega) (fun t ht => (HG.out t ht).1)).mono ?_
        rintro e w6 ⟨rfl, hb⟩
        have HB6 := Lib.hid (HB5.out.trans (hb.mono HB5.out.size))
        clear hb HB5 HT5 HG
        generalize starRuns false ts = R at *
        have HD : Hid (decide (((R : Nat) : Int) < 2) = decide (R < 2)) := Lib.hid (decide_eq_decide.2 (by omega))
        rw [← HD.out] at HF3
        clear HD
        go_wp2
        go_ret
        exact ⟨by rw [HF3.out]; rfl, HB6.out⟩

end Go.Proofs.YtpkhcndhckocnaaDoor

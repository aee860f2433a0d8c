/-
  strings.Contains at one byte, strings.HasPrefix, strings.HasSuffix; spec.SlashTerms, spec.SlashClass, spec.NoSlash, spec.StarRuns, spec.Decided: contracts. Conditions: none beyond those of each theorem.
-/
import Derived.Test.YtnjinkbhepimkaaDoorLawD
import Derived.Test.YtnjinkbhepimkaaDoorAdmits
namespace Go.Proofs.YtnjinkbhepimkaaDoor
open Go.ChangeShapes Go.WideShapes Go.ChangeAt Go.RowKit

theorem index_contains (l : Bs) (c : UInt8) : decide (0 ≤ Lib.indexByte l c) = l.contains c := by
  have h := indexByte_neg l c
  cases hc : l.contains c with
  | false => exact decide_eq_false (by have := h.2 hc; omega)
  | true =>
    refine decide_eq_true ?_
    have : ¬ Lib.indexByte l c < 0 := fun x => by rw [h.1 x] at hc; cases hc
    omega

theorem slashB (P : ByteArray) (p : Bs) (w : World) (hP : P.data.toList = p) :
    Calls Tryd.prog 33 #[.string P, .string ⟨#[47]⟩] w fun e w' => e = .returned (.bool (p.contains 47)) ∧ Below w.heap.size w w' := by
  refine (Tryd.strings_Contains_one P 47 w).mono ?_
  rintro e w' ⟨rfl, rfl⟩
  rw [hP, index_contains]
  exact ⟨rfl, Below.refl _ _⟩
theorem hasPrefixB (P Q : ByteArray) (p q : Bs) (w : World) (hP : P.data.toList = p) (hQ : Q.data.toList = q) :
    Calls Tryd.prog 31 #[.string P, .string Q] w fun e w' => e = .returned (.bool (q.isPrefixOf p)) ∧ Below w.heap.size w w' := by
  refine (Tryd.strings_HasPrefix P Q w).mono ?_
  rintro e w' ⟨rfl, rfl⟩
  rw [hP, hQ]
  exact ⟨rfl, Below.refl _ _⟩
theorem hasSuffixB (P Q : ByteArray) (p q : Bs) (w : World) (hP : P.data.toList = p) (hQ : Q.data.toList = q) (hl : p.length ≤ 9223372036854775807) :
    Calls Tryd.prog 32 #[.string P, .string Q] w fun e w' => e = .returned (.bool (q.isSuffixOf p)) ∧ Below w.heap.size w w' := by
  refine (Tryd.strings_HasSuffix P Q w (by rw [ba_len, hP]; exact hl)).mono ?_
  rintro e w' ⟨rfl, rfl⟩
  rw [hP, hQ]
  exact ⟨rfl, Below.refl _ _⟩


set_option maxHeartbeats 1000000 in
theorem slashTerms_call (lo : Nat) (v : Value) (ts : List Tm) (w : World) (h : TmsRd lo w v ts) (hl : ts.length ≤ 100000000) (hk : ∀ t ∈ ts, okNum t) :
    Calls Tryd.prog 38 #[v] w fun e w' => e = .returned (.int .i64 (slashN ts : Nat)) ∧ Below w.heap.size w w' := by
  obtain ⟨a, cap, rfl, hcap, hcells⟩ := h
  have HC := Lib.hid hcells
  have HK := Lib.hid hk
  clear hcells hk
  go_enter Tryd.func38, Tryd.ntmps38
  go_wp2
  go_loopw [3, 4] (fun n i wr => CountRel slashN ts w n i wr) (fun _ i _ => ts.length - (intOf i).toNat)
  case atStart => exact ⟨0, rfl, by omega, rfl, 0, rfl⟩
  case round =>
    obtain ⟨k, rfl, hkl, rfl, q, rfl⟩ := hrel
    have hs1 := slashN_le (ts.take k)
    have hs2 : (ts.take k).length ≤ k := List.length_take_le _ _
    by_cases hlt : k < ts.length
    · obtain ⟨t, ht⟩ : ∃ t, ts[k]? = some t := ⟨_, List.getElem?_eq_getElem hlt⟩
      obtain ⟨g, o, rv, rfl, hlo, hltg, c0, c1, c2, c3, _⟩ := HC.out k t ht
      obtain ⟨hk100, hchr, _⟩ := HK.out t (List.mem_of_getElem? ht)
      have HN : Hid (slashN (ts.take (k + 1)) = slashN (ts.take k) + if t.kind = 3 ∧ t.chr = 47 then 1 else 0) := Lib.hid (by rw [List.take_add_one, ht]; exact slashN_snoc _ _)
      obtain ⟨tk, tc, tn, trs⟩ := t
      simp only at c0 c1 hk100 hchr
      clear HC HK ht c2 c3
      by_cases h3 : tk = 3
      · subst h3
        by_cases h47 : tc = 47
        · subst h47
          have HF : Hid (slashN (ts.take (k + 1)) = slashN (ts.take k) + 1) := Lib.hid HN.out
          clear HN
          go_wp2
          go_roundw
          case rel => exact ⟨k + 1, by go_num, by omega, by rw [HF.out]; go_num, q, rfl⟩
          case measure => simp [intOf]; omega
        · have b0 : (((tc : Nat) : Int) == 47) = false := by simp; omega
          have HF : Hid (slashN (ts.take (k + 1)) = slashN (ts.take k)) := Lib.hid (by rw [HN.out, if_neg (fun x => h47 x.2)]; rfl)
          clear HN h47
          go_wp2
          go_roundw
          case rel => exact ⟨k + 1, by go_num, by omega, by rw [HF.out], q, rfl⟩
          case measure => simp [intOf]; omega
      · have b0 : (((tk : Nat) : Int) == 3) = false := by simp; omega
        have HF : Hid (slashN (ts.take (k + 1)) = slashN (ts.take k)) := Lib.hid (by rw [HN.out, if_neg (fun x => h3 x.1)]; rfl)
        clear HN h3
        go_wp2
        go_roundw
        case rel => exact ⟨k + 1, by go_num, by omega, by rw [HF.out], q, rfl⟩
        case measure => simp [intOf]; omega
    · obtain rfl : k = ts.length := by omega
      clear HC HK
      rw [List.take_length]
      go_wp2
      go_ret
      exact ⟨rfl, below_drewN (Below.refl _ w) q⟩

def lastStar : Bool → List Tm → Bool
  | b, [] => b
  | _, t :: ts => lastStar (decide (t.kind = 0)) ts
theorem starRuns_snoc (t : Tm) : ∀ (b : Bool) (ts : List Tm), starRuns b (ts ++ [t]) = starRuns b ts + if t.kind = 0 ∧ lastStar b ts = false then 1 else 0
  | b, [] => by
    show (if t.kind = 0 ∧ b = false then 1 else 0) + 0 = 0 + if t.kind = 0 ∧ b = false then 1 else 0
    rw [Nat.add_zero, Nat.zero_add]
  | b, u :: ts => by
    rw [List.cons_append]
    show _ + starRuns (decide (u.kind = 0)) (ts ++ [t]) = _ + starRuns (decide (u.kind = 0)) ts + if t.kind = 0 ∧ lastStar (decide (u.kind = 0)) ts = false then 1 else 0
    rw [starRuns_snoc t _ ts, Nat.add_assoc]
theorem lastStar_snoc (u : Tm) : ∀ (b : Bool) (ts : List Tm), lastStar b (ts ++ [u]) = decide (u.kind = 0)
  | _, [] => rfl
  | _, _ :: ts => lastStar_snoc u _ ts
theorem starRuns_le : ∀ (b : Bool) (ts : List Tm), starRuns b ts ≤ ts.length
  | _, [] => Nat.le_refl _
  | b, t :: ts => by
    have := starRuns_le (decide (t.kind = 0)) ts
    unfold starRuns
    rw [List.length_cons]
    split <;> omega


def SlashRel (ts : List Tm) (w : World) (i : Value) (wr : World) : Prop := ∃ k : Nat, i = .int .i64 (k : Nat) ∧ k ≤ ts.length ∧ slashClass ts = slashClass (ts.drop k) ∧ Below w.heap.size w wr

set_option maxHeartbeats 2000000 in
theorem slashClass_call (lo : Nat) (v : Value) (ts : List Tm) (w : World) (h : TmsRd lo w v ts) (hl : ts.length ≤ 100000000) (hw : weight ts ≤ 100000000) (hk : ∀ t ∈ ts, okNum t) :
    Calls Tryd.prog 36 #[v] w fun e w' => e = .returned (.bool (slashClass ts)) ∧ Below w.heap.size w w' := by
  have HT := Lib.hid h
  have HG := Lib.hid hk
  obtain ⟨a, cap, rfl, hcap, _⟩ := h
  clear hk
  go_enter Tryd.func36, Tryd.ntmps36
  go_wp2
  go_loopw [3] (fun i wr => SlashRel ts w i wr) (fun i _ => ts.length - (intOf i).toNat)
  case atStart => exact ⟨0, rfl, by omega, rfl, Below.refl _ _⟩
  case round =>
    obtain ⟨k, rfl, hkl, ho, hb⟩ := hrel
    have HO := Lib.hid ho
    have HB := Lib.hid hb
    clear ho hb
    by_cases hlt : k < ts.length
    · obtain ⟨t, htk⟩ : ∃ t, ts[k]? = some t := ⟨_, List.getElem?_eq_getElem hlt⟩
      obtain ⟨a', cap', e', _, hcells⟩ := HT.out.below HB.out
      obtain ⟨g, o, rv, rfl, hlo, hltg, c1, c2, c3, c4, hrg⟩ := hcells k t htk
      injection e' with e1 e2 e3
      subst e1
      clear e2 e3 hcells
      obtain ⟨n1, n2, n3⟩ := HG.out t (List.mem_of_getElem? htk)
      have hwtk : t.rs.length ≤ weight ts := weight_at htk
      have HN : Hid (slashClass ts = ((decide (t.kind = 2) && adm t 47) || slashClass (ts.drop (k + 1)))) := Lib.hid (by
        rw [HO.out, List.drop_eq_getElem_cons hlt]
        rw [List.getElem?_eq_getElem hlt] at htk
        injection htk with htk
        rw [htk]
        rfl)
      clear HO
      by_cases h2 : t.kind = 2
      · have hcall := Lib.hid (fun w1 (hb1 : Below wr.heap.size wr w1) => admits_call _ t rv 47 w1 (hrg.below hb1) n1 (by omega) (by omega) n3)
        have HN2 : Hid (slashClass ts = (adm t 47 || slashClass (ts.drop (k + 1)))) := Lib.hid (by rw [HN.out, decide_eq_true h2, Bool.true_and])
        obtain ⟨ra, rcap, rfl, _⟩ := hrg
        clear HN HG htk n3
        generalize adm t 47 = AD at *
        obtain ⟨tk, tc, tn, trs⟩ := t
        simp only at c1 c2 c3 c4 n1 n2 hwtk hcall h2
        subst h2
        go_wp2_with fail
        refine (hcall.out _ (Below.refl _ _)).mono ?_
        rintro e w' ⟨rfl, hb⟩
        have HB2 := Lib.hid (HB.out.trans (hb.mono HB.out.size))
        clear hb hcall
        cases AD with
        | true =>
          have HF : Hid (slashClass ts = true) := Lib.hid HN2.out
          clear HN2
          go_wp2
          go_ret
          exact ⟨by rw [HF.out]; rfl, HB2.out⟩
        | false =>
          have HF : Hid (slashClass ts = slashClass (ts.drop (k + 1))) := Lib.hid HN2.out
          clear HN2
          go_wp2
          go_roundw
          case rel => exact ⟨k + 1, by go_num, by omega, HF.out, HB2.out⟩
          case measure => simp [intOf]; omega
      · have b2 : (((t.kind : Nat) : Int) == 2) = false := by simp; omega
        have HF : Hid (slashClass ts = slashClass (ts.drop (k + 1))) := Lib.hid (by rw [HN.out, decide_eq_false h2]; rfl)
        clear HN HG htk n3 hrg h2
        obtain ⟨tk, tc, tn, trs⟩ := t
        simp only at c1 c2 c3 c4 n1 n2 hwtk b2
        go_wp2
        go_roundw
        case rel => exact ⟨k + 1, by go_num, by omega, HF.out, HB.out⟩
        case measure => simp [intOf]; omega
    · have HF : Hid (slashClass ts = false) := Lib.hid (by rw [HO.out, List.drop_eq_nil_of_le (by omega)]; rfl)
      have hlt2 : ¬ ((k : Int) < (ts.length : Int)) := by omega
      clear HO HT HG
      go_wp2
      go_ret
      exact ⟨by rw [HF.out]; rfl, HB.out⟩



end Go.Proofs.YtnjinkbhepimkaaDoor

/-
  spec.escape, spec.Body, spec.Write, spec.WriteAll: contracts. Conditions: none beyond those of each theorem.
-/
import Derived.Test.YtcoaoheakeodoaaDoorTermR
import Derived.Test.YtcoaoheakeodoaaDoorPlainS
namespace Go.Proofs.YtcoaoheakeodoaaDoor
open Go.ChangeShapes Go.WideShapes Go.ChangeAt Go.RowKit

theorem escape_call (c : Nat) (w : World) (hc : c ≤ 2147483647) :
    Calls Tryd.prog 50 #[.int .i32 (c : Nat)] w fun e w' => e = .returned (S (escW c)) ∧ w = w' := by
  have hz := encode_size_le (c : Int)
  by_cases hq : escB c = true
  · have HF : Hid ((⟨#[92]⟩ ++ Utf8.encode (c : Int) : ByteArray).data.toList = escW c) := by
      apply Lib.hid
      rw [ba_app, encode_enc]
      unfold escW
      rw [if_pos hq]
      rfl
    have hd : c = 45 ∨ c = 93 ∨ c = 92 ∨ c = 94 := of_decide_eq_true hq
    clear hq
    rcases hd with rfl | rfl | rfl | rfl
    all_goals
      go_enter Tryd.func50, Tryd.ntmps50
      go_wp2
      go_ret
      exact ⟨ret_str HF.out, rfl⟩
  · have HF : Hid ((Utf8.encode (c : Int) : ByteArray).data.toList = escW c) := by
      apply Lib.hid
      rw [encode_enc]
      unfold escW
      rw [if_neg hq]
    have hd : ¬ (c = 45 ∨ c = 93 ∨ c = 92 ∨ c = 94) := fun x => hq (decide_eq_true x)
    have e1 : (((c : Nat) : Int) == 45) = false := by simp; omega
    have e2 : (((c : Nat) : Int) == 93) = false := by simp; omega
    have e3 : (((c : Nat) : Int) == 92) = false := by simp; omega
    have e4 : (((c : Nat) : Int) == 94) = false := by simp; omega
    clear hq hd
    go_enter Tryd.func50, Tryd.ntmps50
    go_wp2
    go_ret
    exact ⟨ret_str HF.out, rfl⟩

def BodyRel (rs : List (Nat × Nat)) (w : World) (out i : Value) (wr : World) : Prop :=
  ∃ (k : Nat) (s : ByteArray) (q : Nat), i = .int .i64 k ∧ k ≤ rs.length ∧ out = .string s ∧ s.data.toList = bodyW (rs.take k) ∧ wr = w.drewN q

theorem take_snoc' {α : Type} (l : List α) (k : Nat) (x : α) (h : l[k]? = some x) : l.take (k + 1) = l.take k ++ [x] := by
  rw [List.take_add_one, h]
  rfl

set_option maxHeartbeats 1000000 in
theorem body_call (lo : Nat) (v : Value) (rs : List (Nat × Nat)) (w : World) (h : RgRd lo w v rs) (hl : rs.length ≤ 100000000) (hr : ∀ r ∈ rs, r.1 ≤ 2147483647 ∧ r.2 ≤ 2147483647) :
    Calls Tryd.prog 31 #[v] w fun e w' => e = .returned (S (bodyW rs)) ∧ Below w.heap.size w w' := by
  obtain ⟨a, cap, rfl, hcap, hcells⟩ := h
  have HC := Lib.hid hcells
  have HR := Lib.hid hr
  clear hcells hr
  go_enter Tryd.func31, Tryd.ntmps31
  go_wp2
  go_loopw [3, 4] (fun o i wr => BodyRel rs w o i wr) (fun _ i _ => rs.length - (intOf i).toNat)
  case atStart => exact ⟨0, ByteArray.empty, 0, rfl, by omega, rfl, rfl, rfl⟩
  case round =>
    obtain ⟨k, s, q, rfl, hk, rfl, hs, rfl⟩ := hrel
    have HS := Lib.hid hs
    have hsl : s.size ≤ 11 * rs.length := by
      rw [ba_len, hs]
      have h1 := bodyW_len (rs.take k)
      have h2 : (rs.take k).length ≤ rs.length := by simp; omega
      omega
    clear hs
    by_cases hkl : k < rs.length
    · obtain ⟨r, hrk⟩ : ∃ r, rs[k]? = some r := ⟨_, List.getElem?_eq_getElem hkl⟩
      obtain ⟨g, o, rfl, hlo, hlt, c1, c2⟩ := HC.out k r hrk
      obtain ⟨r1, r2⟩ := r
      obtain ⟨hb1, hb2⟩ := HR.out _ (List.mem_of_getElem? hrk)
      simp only at c1 c2 hb1 hb2
      have HT := Lib.hid (take_snoc' rs k _ hrk)
      have hw1 := escW_len r1
      have hw2 := escW_len r2
      have HE1 := Lib.hid (fun w' => escape_call r1 w' hb1)
      have HE2 := Lib.hid (fun w' => escape_call r2 w' hb2)
      have z1 : (⟨(escW r1).toArray⟩ : ByteArray).size ≤ 5 := hw1
      have z2 : (⟨(escW r2).toArray⟩ : ByteArray).size ≤ 5 := hw2
      clear hrk HC HR
      by_cases he : r2 = r1
      · subst he
        have hS2 : Hid ((s ++ ⟨(escW r2).toArray⟩ : ByteArray).data.toList = bodyW (rs.take (k + 1))) := by
          apply Lib.hid
          rw [HT.out, bodyW_snoc, ba_app, HS.out]
          unfold rangeW
          rw [if_pos rfl, List.append_nil]
        clear HS HT
        go_wp2_with fail
        refine (HE2.out _).mono ?_
        rintro e w' ⟨rfl, rfl⟩
        go_wp2_with fail
        go_quiet (fail)
        go_wp2
        go_roundw
        case rel => exact ⟨k + 1, _, _, by go_num, by omega, rfl, hS2.out, rfl⟩
        case measure => simp [intOf]; omega
      · have hS2 : Hid ((s ++ ⟨(escW r1).toArray⟩ ++ ⟨#[45]⟩ ++ ⟨(escW r2).toArray⟩ : ByteArray).data.toList = bodyW (rs.take (k + 1))) := by
          apply Lib.hid
          rw [HT.out, bodyW_snoc, ba_app, ba_app, ba_app, HS.out]
          unfold rangeW
          rw [if_neg he]
          simp
        have hne : (((r2 : Nat) : Int) != ((r1 : Nat) : Int)) = true := by simp; omega
        clear HS HT he
        go_wp2_with fail
        refine (HE1.out _).mono ?_
        rintro e w' ⟨rfl, rfl⟩
        go_wp2_with fail
        go_quiet (fail)
        go_wp2_with fail
        refine (HE2.out _).mono ?_
        rintro e w' ⟨rfl, rfl⟩
        go_wp2
        go_roundw
        case rel => exact ⟨k + 1, _, _, by go_num, by omega, rfl, hS2.out, rfl⟩
        case measure => simp [intOf]; omega
    · obtain rfl : k = rs.length := by omega
      clear HC HR
      go_wp2
      go_ret
      exact ⟨ret_str (by rw [HS.out, List.take_length]), below_drewN (Below.refl _ w) q⟩

theorem blk4w (w : World) (a b c d : Value) (t : TypeId) : (w.alloc (.cells #[a, b, c, d] t)).cell? ⟨w.heap.size, 0, none⟩ = some a := by simp

set_option maxHeartbeats 1000000 in
theorem write_call (lo : Nat) (t : Tm) (rv : Value) (w : World) (h : RgRd lo w rv t.rs) (hk : t.kind ≤ 100) (hc : t.chr ≤ 2147483647) (hl : t.rs.length ≤ 100000000) (hr : ∀ r ∈ t.rs, r.1 ≤ 2147483647 ∧ r.2 ≤ 2147483647) :
    Calls Tryd.prog 11 #[.agg #[.int .i64 (t.kind : Nat), .int .i32 (t.chr : Nat), .bool t.neg, rv]] w fun e w' => e = .returned (S (writeW t)) ∧ Below w.heap.size w w' := by
  obtain ⟨k, c, n, rs⟩ := t
  simp only at h hk hc hl hr ⊢
  have hsp := Lib.hid (fun w' => special_call c w' hc)
  have hz := encode_size_le (c : Int)
  have HB := Lib.hid ((Below.refl w.heap.size w).alloc (Nat.le_refl _) (.cells #[.int .i64 (k : Nat), .int .i32 (c : Nat), .bool n, rv] 33))
  have hbody := Lib.hid (body_call lo rv rs _ (h.below HB.out) hl hr)
  obtain ⟨ra, rcap, rfl, _⟩ := h
  have hbl := bodyW_len rs
  have z1 : (⟨(bodyW rs).toArray⟩ : ByteArray).size ≤ 11 * rs.length := hbl
  clear hr
  by_cases k0 : k = 0
  · subst k0
    go_enter Tryd.func11, Tryd.ntmps11
    go_wp2
    go_ret
    exact ⟨rfl, HB.out⟩
  · by_cases k1 : k = 1
    · subst k1
      go_enter Tryd.func11, Tryd.ntmps11
      go_wp2
      go_ret
      exact ⟨rfl, HB.out⟩
    · by_cases k3 : k = 3
      · subst k3
        obtain ⟨b, hb⟩ : ∃ b, b = spB c := ⟨_, rfl⟩
        rw [← hb] at hsp
        have HF : Hid (writeW ⟨3, c, n, rs⟩ = if b then 92 :: enc c else enc c) := by
          apply Lib.hid
          rw [hb]
          rfl
        clear hb k0 k1
        cases b with
        | true =>
          have HG : Hid ((⟨#[92]⟩ ++ Utf8.encode (c : Int) : ByteArray).data.toList = writeW ⟨3, c, n, rs⟩) := by
            apply Lib.hid
            rw [HF.out, ba_app, encode_enc]
            rfl
          clear HF
          go_enter Tryd.func11, Tryd.ntmps11
          go_wp2_with fail
          refine (hsp.out _).mono ?_
          rintro e w' ⟨rfl, rfl⟩
          go_wp2
          go_ret
          exact ⟨ret_str HG.out, HB.out⟩
        | false =>
          have HG : Hid ((Utf8.encode (c : Int) : ByteArray).data.toList = writeW ⟨3, c, n, rs⟩) := by
            apply Lib.hid
            rw [HF.out, encode_enc]
            rfl
          clear HF
          go_enter Tryd.func11, Tryd.ntmps11
          go_wp2_with fail
          refine (hsp.out _).mono ?_
          rintro e w' ⟨rfl, rfl⟩
          go_wp2
          go_ret
          exact ⟨ret_str HG.out, HB.out⟩
      · have e0 : (((k : Nat) : Int) == 0) = false := by simp; omega
        have e1 : (((k : Nat) : Int) == 1) = false := by simp; omega
        have e3 : (((k : Nat) : Int) == 3) = false := by simp; omega
        have HF : Hid (writeW ⟨k, c, n, rs⟩ = if n then 91 :: 94 :: (bodyW rs ++ [93]) else 91 :: (bodyW rs ++ [93])) := by
          apply Lib.hid
          unfold writeW
          rw [if_neg k0, if_neg k1, if_neg k3]
        clear k0 k1 k3
        cases n with
        | true =>
          have HG : Hid ((⟨#[91, 94]⟩ ++ ⟨(bodyW rs).toArray⟩ ++ ⟨#[93]⟩ : ByteArray).data.toList = writeW ⟨k, c, true, rs⟩) := by
            apply Lib.hid
            rw [HF.out, ba_app, ba_app]
            rfl
          clear HF
          go_enter Tryd.func11, Tryd.ntmps11
          go_wp2_with fail
          refine hbody.out.mono ?_
          rintro e w1 ⟨rfl, hb⟩
          have HB2 := Lib.hid (HB.out.trans (hb.mono HB.out.size))
          clear hb hbody HB
          go_wp2
          go_ret
          exact ⟨ret_str HG.out, HB2.out⟩
        | false =>
          have HG : Hid ((⟨#[91]⟩ ++ ⟨(bodyW rs).toArray⟩ ++ ⟨#[93]⟩ : ByteArray).data.toList = writeW ⟨k, c, false, rs⟩) := by
            apply Lib.hid
            rw [HF.out, ba_app, ba_app]
            rfl
          clear HF
          go_enter Tryd.func11, Tryd.ntmps11
          go_wp2_with fail
          refine hbody.out.mono ?_
          rintro e w1 ⟨rfl, hb⟩
          have HB2 := Lib.hid (HB.out.trans (hb.mono HB.out.size))
          clear hb hbody HB
          go_wp2
          go_ret
          exact ⟨ret_str HG.out, HB2.out⟩

/-- What the writers ask of a term's numbers. -/
def okNum (t : Tm) : Prop := t.kind ≤ 100 ∧ t.chr ≤ 2147483647 ∧ ∀ r ∈ t.rs, r.1 ≤ 2147483647 ∧ r.2 ≤ 2147483647

def WriteRel (ts : List Tm) (w : World) (out i : Value) (wr : World) : Prop :=
  ∃ (k : Nat) (s : ByteArray), i = .int .i64 k ∧ k ≤ ts.length ∧ out = .string s ∧ s.data.toList = writeA (ts.take k) ∧ Below w.heap.size w wr

set_option maxHeartbeats 1000000 in
theorem writeAll_call (lo : Nat) (v : Value) (ts : List Tm) (w : World) (h : TmsRd lo w v ts) (hw : weight ts ≤ 100000000) (hn : ∀ t ∈ ts, okNum t) :
    Calls Tryd.prog 23 #[v] w fun e w' => e = .returned (S (writeA ts)) ∧ Below w.heap.size w w' := by
  have HT := Lib.hid h
  obtain ⟨a, cap, rfl, hcap, _⟩ := h
  have hwl := weight_len ts
  have HN := Lib.hid hn
  clear hn
  go_enter Tryd.func23, Tryd.ntmps23
  go_wp2
  go_loopw [3, 4] (fun o i wr => WriteRel ts w o i wr) (fun _ i _ => ts.length - (intOf i).toNat)
  case atStart => exact ⟨0, ByteArray.empty, rfl, by omega, rfl, rfl, Below.refl _ _⟩
  case round =>
    obtain ⟨k, s, rfl, hk, rfl, hs, hb⟩ := hrel
    have HS := Lib.hid hs
    have hsl : s.size ≤ 11 * weight ts := by
      rw [ba_len, hs]
      have h1 := writeA_len (ts.take k)
      have h2 := weight_take ts k
      omega
    have HB := Lib.hid hb
    clear hs hb
    by_cases hkl : k < ts.length
    · obtain ⟨t, htk⟩ : ∃ t, ts[k]? = some t := ⟨_, List.getElem?_eq_getElem hkl⟩
      obtain ⟨a', cap', e', _, hcells⟩ := HT.out.below HB.out
      obtain ⟨g, o, rv, rfl, hlo, hlt, c1, c2, c3, c4, hrg⟩ := hcells k t htk
      injection e' with e1 e2 e3
      subst e1
      clear e2 e3 hcells
      obtain ⟨n1, n2, n3⟩ := HN.out t (List.mem_of_getElem? htk)
      have hwt : t.rs.length ≤ weight ts := by
        have h1 := weight_append (ts.take k) (ts.drop k)
        rw [List.take_append_drop] at h1
        have h2 : ts.drop k = t :: ts.drop (k + 1) := by
          rw [List.drop_eq_getElem_cons hkl]
          rw [List.getElem?_eq_getElem hkl] at htk
          injection htk with htk
          rw [htk]
        rw [h2, weight_cons] at h1
        omega
      have HW := Lib.hid (write_call lo t rv wr hrg n1 n2 (by omega) n3)
      have hlen := writeW_len t
      have z1 : (⟨(writeW t).toArray⟩ : ByteArray).size ≤ 5 + 11 * t.rs.length := hlen
      have hS2 : Hid ((s ++ ⟨(writeW t).toArray⟩ : ByteArray).data.toList = writeA (ts.take (k + 1))) := by
        apply Lib.hid
        rw [take_snoc' ts k t htk, writeA_snoc, ba_app, HS.out]
      obtain ⟨ra, rcap, rfl, _⟩ := hrg
      obtain ⟨tk, tc, tn, trs⟩ := t
      simp only at c1 c2 c3 c4 n1 n2 hwt z1
      clear HN HT htk hlen HS n3
      go_wp2_with fail
      refine HW.out.mono ?_
      rintro e w2 ⟨rfl, hb⟩
      have HB2 := Lib.hid (HB.out.trans (hb.mono HB.out.size))
      clear hb HB HW
      go_wp2
      go_roundw
      case rel => exact ⟨k + 1, _, by go_num, by omega, rfl, hS2.out, HB2.out⟩
      case measure => simp [intOf]; omega
    · obtain rfl : k = ts.length := by omega
      clear HN HT
      go_wp2
      go_ret
      exact ⟨ret_str (by rw [HS.out, List.take_length]), HB.out⟩

end Go.Proofs.YtcoaoheakeodoaaDoor

/-
  A class with the ranges of two classes matches each character that one of both matches: the law returns true for every input and leaves it as it was. Conditions: none.
  The frame round the walk is the kit's own (proof-skeleton.mjs).
-/
import Derived.Test.YtlfppmhkgfhecaaDoorRows
import Derived.Test.YtlfppmhkgfhecaaDoorIterT
import Derived.Test.YtlfppmhkgfhecaaDoorLate
import Derived.Test.YtlfppmhkgfhecaaDoorDrawN
import Derived.Deep.RegionHeld3
import Derived.Test.YtlfppmhkgfhecaaDoorTie
import Derived.Test.YtlfppmhkgfhecaaDoorCards
import Derived.Test.YtlfppmhkgfhecaaDoorLaid
import Derived.LaidMore
import Derived.Lay
import Derived.SevenTiedAt
import Derived.Stop.Joined
namespace Go.Proofs.YtlfppmhkgfhecaaDoor.fnClassUnion
open Go.ChangeShapes Go.WideShapes Go.ChangeAt Go.RowKit
open Go.ChangeMaps (open_string shut_string)
set_option linter.unusedVariables false

theorem put2 {P : Act → Prop} {act : Act} {d1 d2 : Option Tmp} {v1 v2 : Value} (i j : Tmp) (h1 : d1 = some i) (h2 : d2 = some j) (h : P ((act.put (some i) v1).put (some j) v2)) : P ((act.put d1 v1).put d2 v2) := by
  subst h1 h2
  exact h
set_option maxRecDepth 200000 in
set_option maxHeartbeats 8000000 in
theorem walk (a : Option Addr) (len cap : Nat) (zs : List Int) (w : World) (hr : IsRow .u8 w a len cap zs) (ae : Addr) (hE : Env ae w) :
    Calls Tryd.prog 9 #[.slice a len cap] w fun e w' => e = .returned (.bool true) ∧ Below w.heap.size w w' := by
  have HR := Lib.hid hr
  have HE := Lib.hid hE
  clear hr hE
  by_cases hlen : 1048576 < len
  · have hl' : (1048576 : Int) < len := by omega
    go_enter Tryd.func9, Tryd.ntmps9
    go_wp2
    go_ret
    exact ⟨rfl, Below.refl _ _⟩
  · have hl' : ¬ (1048576 : Int) < len := by omega
    go_enter Tryd.func9, Tryd.ntmps9
    go_wp2_with fail
    refine (drawConcat_any a len cap zs _ HR.out (by omega)).mono ?_
    rintro e w1 ⟨p, q, n, rfl, hpl, hql, hnl, hb⟩
    have HE1 := Lib.hid (HE.out.on hb)
    have HB1 := Lib.hid hb
    clear hb HR HE
    go_wp2_with fail
    refine (yesStar ae w1 HE1.out).mono ?_
    rintro e w2 ⟨rfl, hb⟩
    have HE2 := Lib.hid (HE1.out.on hb)
    have HB2 := Lib.hid (HB1.out.trans (hb.mono HB1.out.size))
    clear hb HE1 HB1
    go_wp2_with fail
    refine (wellFormedB ae _ p w2 HE2.out rfl (by omega)).mono ?_
    rintro e w3 ⟨rfl, hb⟩
    have HE3 := Lib.hid (HE2.out.on hb)
    have HB3 := Lib.hid (HB2.out.trans (hb.mono HB2.out.size))
    clear hb HE2 HB2
    generalize hA : wfB p = A
    have HA1 := Lib.hid hA
    clear hA
    cases A with
    | false =>
      go_wp2
      go_ret
      exact ⟨rfl, HB3.out⟩
    | true =>
      go_wp2_with fail
      refine (wellFormedB ae _ q w3 HE3.out rfl (by omega)).mono ?_
      rintro e w4 ⟨rfl, hb⟩
      have HE4 := Lib.hid (HE3.out.on hb)
      have HB4 := Lib.hid (HB3.out.trans (hb.mono HB3.out.size))
      clear hb HE3 HB3
      generalize hA : wfB q = A
      have HA2 := Lib.hid hA
      clear hA
      cases A with
      | false =>
        go_wp2
        go_ret
        exact ⟨rfl, HB4.out⟩
      | true =>
        go_wp2_with fail
        refine (validB ae _ n w4 HE4.out rfl (by omega)).mono ?_
        rintro e w5 ⟨rfl, hb⟩
        have HE5 := Lib.hid (HE4.out.on hb)
        have HB5 := Lib.hid (HB4.out.trans (hb.mono HB4.out.size))
        clear hb HE4 HB4
        generalize hV : Lib.validD n = V
        have HV := Lib.hid hV
        clear hV
        cases V with
        | false =>
          go_wp2
          go_ret
          exact ⟨rfl, HB5.out⟩
        | true =>
          obtain ⟨ts, hrd, _, hgood, _, _⟩ := wf_terms HA1.out
          obtain ⟨us, hrd2, _, hgood2, _, _⟩ := wf_terms HA2.out
          have hwt := read_weight' p ts hrd
          have hwu := read_weight' q us hrd2
          have hwl := weight_len ts
          have hwl2 := weight_len us
          have HG : Hid (∀ t ∈ ts, goodTm t) := Lib.hid hgood
          have HG2 : Hid (∀ t ∈ us, goodTm t) := Lib.hid hgood2
          have HRD := Lib.hid hrd
          have HRD2 := Lib.hid hrd2
          have HSC : Hid (scs (runes n)) := Lib.hid (valid_runes _ n (Nat.le_refl _) HV.out).1
          have hsz : (⟨n.toArray⟩ : ByteArray).size = n.length := by simp [ByteArray.size]
          have HSZ := Lib.hid hsz
          clear hrd hrd2 hgood hgood2 HA1 HA2 HV hsz
          have hfd := fld0
          go_wp2_with fail
          refine (readB _ p w5 rfl (by omega)).mono ?_
          rintro e w6 ⟨hb, va, vn, vc, rfl, hts⟩
          obtain ⟨rfl, htm⟩ := hts ts HRD.out
          have HT := Lib.hid htm
          have HE6 := Lib.hid (HE5.out.on hb)
          have HB6 := Lib.hid (HB5.out.trans (hb.mono HB5.out.size))
          generalize rdOk p = OK
          generalize rdSet p = ST
          clear hb HE5 HB5 hts htm HRD
          go_wp2
          go_loopw [42] (fun i wr => ∃ (k : Nat), i = .int .i64 (k : Nat) ∧ k ≤ ts.length ∧ Below w6.heap.size w6 wr) (fun i _ => ts.length - (intOf i).toNat)
          case atStart => exact ⟨0, rfl, by omega, Below.refl _ _⟩
          case round =>
            obtain ⟨k, rfl, hk, hb⟩ := hrel
            have HB := Lib.hid hb
            clear hb
            by_cases hkl : k < ts.length
            · obtain ⟨t, htk⟩ : ∃ t, ts[k]? = some t := ⟨_, List.getElem?_eq_getElem hkl⟩
              obtain ⟨a', cap', e', _, hcells⟩ := HT.out.below HB.out
              obtain ⟨g, o, rv, rfl, hlo, hlt, c1, c2, c3, c4, hrg⟩ := hcells k t htk
              injection e' with e1 e2 e3
              subst e1 e3
              clear e2 hcells
              have HGT := Lib.hid (HG.out t (List.mem_of_getElem? htk))
              obtain ⟨n1, n2, n3⟩ := good_ok HGT.out
              have hwtk := weight_at' htk
              have HN3 := Lib.hid n3
              have HRG := Lib.hid hrg
              obtain ⟨ra, rcap, rfl, _⟩ := hrg
              have s1 : (k : Int) < (ts.length : Int) := by omega
              have s2 : (0 : Int) ≤ (k : Int) := by omega
              clear n3 htk
              obtain ⟨tk, tc, tn, trs⟩ := t
              simp only at c1 c2 c3 c4 n1 n2 hwtk HGT HN3 HRG
              obtain ⟨wo, hwo⟩ : ∃ x, x = wr := ⟨_, rfl⟩
              subst hwo
              have HD0 : Hid (Below wo.heap.size wo (wo.alloc (.cells #[.int .i64 (tk : Nat), .int .i32 (tc : Nat), .bool tn, .slice ra trs.length rcap] 33))) := Lib.hid ((Below.refl _ _).alloc (Nat.le_refl _) _)
              have hszT : (wo.alloc (.cells #[.int .i64 (tk : Nat), .int .i32 (tc : Nat), .bool tn, .slice ra trs.length rcap] 33)).heap.size = wo.heap.size + 1 := by simp
              have HBLK : Hid ((wo.alloc (.cells #[.int .i64 (tk : Nat), .int .i32 (tc : Nat), .bool tn, .slice ra trs.length rcap] 33)).heap[wo.heap.size]? = some (.cells #[.int .i64 (tk : Nat), .int .i32 (tc : Nat), .bool tn, .slice ra trs.length rcap] 33 (0, 0))) := Lib.hid (heap_alloc_new wo _)
              have HRA : Hid (RgRd 0 (wo.alloc (.cells #[.int .i64 (tk : Nat), .int .i32 (tc : Nat), .bool tn, .slice ra trs.length rcap] 33)) (.slice ra trs.length rcap) trs) := Lib.hid ((HRG.out.low (Nat.zero_le _)).below HD0.out)
              have HBW := Lib.hid HB.out
              have HEW := Lib.hid (HE6.out.on HB.out)
              have HBW0 := Lib.hid (HB6.out.trans (HB.out.mono HB6.out.size))
              clear HRG HB
              go_wp2_with fail
              refine (readB _ q _ rfl (by omega)).mono ?_
              rintro e w7 ⟨hb, ub, un, uc, rfl, hus⟩
              obtain ⟨rfl, hum⟩ := hus us HRD2.out
              have HU : Hid (TmsRd 0 w7 (.slice ub us.length uc) us) := Lib.hid (hum.low (Nat.zero_le _))
              have hs7 : wo.heap.size + 1 ≤ w7.heap.size := by have := hb.size; rw [hszT] at this; exact this
              have HB7 : Hid (Below wo.heap.size wo w7) := Lib.hid (HD0.out.trans (hb.mono (by omega)))
              have HBLK7 : Hid (w7.heap[wo.heap.size]? = some (.cells #[.int .i64 (tk : Nat), .int .i32 (tc : Nat), .bool tn, .slice ra trs.length rcap] 33 (0, 0))) := Lib.hid ((hb.block wo.heap.size (by omega)).trans HBLK.out)
              have HRA7 := Lib.hid (HRA.out.below hb)
              have HEW7 := Lib.hid (HEW.out.on HB7.out)
              generalize rdOk q = OK2
              generalize rdSet q = ST2
              clear hb hus hum HBLK HRA HD0
              go_wp2
              go_loopw [50] (fun i wr => ∃ (j : Nat), i = .int .i64 (j : Nat) ∧ j ≤ us.length ∧ Below w7.heap.size w7 wr) (fun i _ => us.length - (intOf i).toNat)
              case atStart => exact ⟨0, rfl, by omega, Below.refl _ _⟩
              case round =>
                obtain ⟨j, rfl, hj, hb⟩ := hrel
                have HB := Lib.hid hb
                clear hb
                by_cases hjl : j < us.length
                · obtain ⟨t, htk⟩ : ∃ t, us[j]? = some t := ⟨_, List.getElem?_eq_getElem hjl⟩
                  obtain ⟨a', cap', e', _, hcells⟩ := HU.out.below HB.out
                  obtain ⟨g2, o2, rv, rfl, hlo2, hlt2, b1, b2, b3, b4, hrg⟩ := hcells j t htk
                  injection e' with e1 e2 e3
                  subst e1 e3
                  clear e2 hcells
                  have HGU := Lib.hid (HG2.out t (List.mem_of_getElem? htk))
                  obtain ⟨m1, m2, m3⟩ := good_ok HGU.out
                  have hwuk := weight_at' htk
                  have HM3 := Lib.hid m3
                  have HRG := Lib.hid hrg
                  obtain ⟨ub2, ucap, rfl, _⟩ := hrg
                  have z1 : (j : Int) < (us.length : Int) := by omega
                  have z2 : (0 : Int) ≤ (j : Int) := by omega
                  clear m3 htk
                  obtain ⟨uk, uch, un, urs⟩ := t
                  simp only at b1 b2 b3 b4 m1 m2 hwuk HGU HM3 HRG
                  obtain ⟨wp, hwp⟩ : ∃ x, x = wr := ⟨_, rfl⟩
                  subst hwp
                  have HDU : Hid (Below wp.heap.size wp (wp.alloc (.cells #[.int .i64 (uk : Nat), .int .i32 (uch : Nat), .bool un, .slice ub2 urs.length ucap] 33))) := Lib.hid ((Below.refl _ _).alloc (Nat.le_refl _) _)
                  have hszU : (wp.alloc (.cells #[.int .i64 (uk : Nat), .int .i32 (uch : Nat), .bool un, .slice ub2 urs.length ucap] 33)).heap.size = wp.heap.size + 1 := by simp
                  have hblkU : (wp.alloc (.cells #[.int .i64 (uk : Nat), .int .i32 (uch : Nat), .bool un, .slice ub2 urs.length ucap] 33)).heap[wp.heap.size]? = some (.cells #[.int .i64 (uk : Nat), .int .i32 (uch : Nat), .bool un, .slice ub2 urs.length ucap] 33 (0, 0)) := heap_alloc_new wp _
                  have hs8 : w7.heap.size ≤ wp.heap.size := HB.out.size
                  have hblkT : (wp.alloc (.cells #[.int .i64 (uk : Nat), .int .i32 (uch : Nat), .bool un, .slice ub2 urs.length ucap] 33)).heap[wo.heap.size]? = some (.cells #[.int .i64 (tk : Nat), .int .i32 (tc : Nat), .bool tn, .slice ra trs.length rcap] 33 (0, 0)) := (HDU.out.block wo.heap.size (by omega)).trans ((HB.out.block wo.heap.size (by omega)).trans HBLK7.out)
                  have HRT : Hid (RgRd 0 (wp.alloc (.cells #[.int .i64 (uk : Nat), .int .i32 (uch : Nat), .bool un, .slice ub2 urs.length ucap] 33)) (.slice ra trs.length rcap) trs) := Lib.hid ((HRA7.out.below HB.out).below HDU.out)
                  have HRU : Hid (RgRd 0 (wp.alloc (.cells #[.int .i64 (uk : Nat), .int .i32 (uch : Nat), .bool un, .slice ub2 urs.length ucap] 33)) (.slice ub2 urs.length ucap) urs) := Lib.hid (HRG.out.below HDU.out)
                  have HBV : Hid (Below w7.heap.size w7 (wp.alloc (.cells #[.int .i64 (uk : Nat), .int .i32 (uch : Nat), .bool un, .slice ub2 urs.length ucap] 33))) := Lib.hid (HB.out.trans (HDU.out.mono hs8))
                  have HEV := Lib.hid (HEW7.out.on HBV.out)
                  clear HB HRG HDU
                  obtain ⟨WU, hWU⟩ : ∃ WU, WU = (wp.alloc (.cells #[.int .i64 (uk : Nat), .int .i32 (uch : Nat), .bool un, .slice ub2 urs.length ucap] 33)) := ⟨_, rfl⟩
                  obtain ⟨t0, t1, t2, t3, _, _, _, _⟩ := blk4 hblkT
                  obtain ⟨u0, u1, u2, u3, _, _, _, _⟩ := blk4 hblkU
                  by_cases kk : tk = 2 ∧ uk = 2
                  · obtain ⟨kk1, kk2⟩ := kk
                    have bt : (((tk : Nat) : Int) != 2) = false := by simp; omega
                    have bu : (((uk : Nat) : Int) != 2) = false := by simp; omega
                    have hT3 : Hid (WU.cell? ⟨wo.heap.size, 3, none⟩ = some (.slice ra trs.length rcap)) := Lib.hid (by rw [hWU]; exact t3)
                    have hU3 : Hid (WU.cell? ⟨wp.heap.size, 3, none⟩ = some (.slice ub2 urs.length ucap)) := Lib.hid (by rw [hWU]; exact u3)
                    rw [← hWU] at HRT HRU HBV HEV
                    have hsWU : WU.heap.size = wp.heap.size + 1 := by rw [hWU]; exact hszU
                    have hbl1 := bodyW_len trs
                    have hbl2 := bodyW_len urs
                    have hlaw : ∀ c, sc c → mm (91 :: (bodyW trs ++ bodyW urs ++ [93])) (enc c) = (mm (91 :: (bodyW trs ++ [93])) (enc c) || mm (91 :: (bodyW urs ++ [93])) (enc c)) := fun c hc => law_classUnion (good_class HGT.out kk1).2.1 (good_class HGT.out kk1).2.2 (good_class HGU.out kk2).2.1 (good_class HGU.out kk2).2.2 hc
                    have HLAW := Lib.hid hlaw
                    have HBT : Hid (∀ W, Below WU.heap.size WU W → Calls Tryd.prog 26 #[.slice ra trs.length rcap] W fun e w' => e = .returned (S (bodyW trs)) ∧ Below W.heap.size W w') := Lib.hid (fun W hW => body_call 0 _ trs W (HRT.out.below hW) (by omega) HN3.out)
                    have HBU : Hid (∀ W, Below WU.heap.size WU W → Calls Tryd.prog 26 #[.slice ub2 urs.length ucap] W fun e w' => e = .returned (S (bodyW urs)) ∧ Below W.heap.size W w') := Lib.hid (fun W hW => body_call 0 _ urs W (HRU.out.below hW) (by omega) HM3.out)
                    have hcT : ∀ W, Below WU.heap.size WU W → W.cell? ⟨wo.heap.size, 3, none⟩ = some (.slice ra trs.length rcap) ∧ W.cell? ⟨wp.heap.size, 3, none⟩ = some (.slice ub2 urs.length ucap) := fun W hW => ⟨(hW.cell (p := ⟨wo.heap.size, 3, none⟩) (by show wo.heap.size < _; omega)).trans hT3.out, (hW.cell (p := ⟨wp.heap.size, 3, none⟩) (by show wp.heap.size < _; omega)).trans hU3.out⟩
                    have HCT := Lib.hid hcT
                    generalize bodyW trs = A at *
                    generalize bodyW urs = B at *
                    have ha1 : A.length ≤ 100000000 := by omega
                    have ha2 : B.length ≤ 100000000 := by omega
                    clear hlaw hcT HRT HRU hT3 hU3 HGT HGU HN3 HM3 hblkT hblkU kk1 kk2
                    go_wp2_with fail
                    refine (HBT.out _ (by rw [hWU]; exact Below.refl _ _)).mono ?_
                    rintro e w8 ⟨rfl, hb⟩
                    have HB8 : Hid (Below WU.heap.size WU w8) := Lib.hid (by rw [hWU]; exact hb)
                    clear hb
                    obtain ⟨r1, r2⟩ := HCT.out w8 HB8.out
                    go_wp2_with fail
                    refine (HBU.out _ HB8.out).mono ?_
                    rintro e w9 ⟨rfl, hb⟩
                    have HB9 := Lib.hid (HB8.out.trans (hb.mono HB8.out.size))
                    clear hb HB8 r1 r2
                    have hs9 : WU.heap.size ≤ w9.heap.size := HB9.out.size
                    have HE9 := Lib.hid (HEV.out.on HB9.out)
                    clear HEV
                    go_wp2
                    go_loopw [13] (fun _ wr => ∃ (pos : Nat), pos ≤ n.length ∧ wr.heap[w9.heap.size]? = some (.stringIter ⟨n.toArray⟩ pos) ∧ scs (runes (n.drop pos)) ∧ Below w9.heap.size w9 wr) (fun _ wr => n.length - wr.iterPos w9.heap.size)
                    case atStart => exact ⟨0, Nat.zero_le _, World.iter_heap w9 ⟨n.toArray⟩ 0, HSC.out, (Below.refl _ _).alloc (Nat.le_refl _) _⟩
                    case round =>
                      obtain ⟨pos, hpos, hit, hsc, hbx⟩ := hrel
                      have HBX := Lib.hid hbx
                      have HIT := Lib.hid hit
                      by_cases hp : pos < n.length
                      · have hne : n.drop pos ≠ [] := by intro e; have := congrArg List.length e; rw [List.length_drop, List.length_nil] at this; omega
                        have hge := dec_ge hne
                        have hle := dec_le (n.drop pos)
                        rw [List.length_drop] at hle
                        have hrn := runes_ne _ hne
                        rw [List.drop_drop] at hrn
                        rw [hrn] at hsc
                        have hscR : sc (dec (n.drop pos)).1 := hsc _ List.mem_cons_self
                        have HSC2 : Hid (scs (runes (n.drop (pos + (dec (n.drop pos)).2)))) := Lib.hid (fun x hx => hsc x (List.mem_cons_of_mem _ hx))
                        have hnx : ∀ ty, (Instr.next (.pointer (some ⟨w9.heap.size, 0, none⟩)) true ty).run Tryd.prog wr = .ok (.tuple #[.bool true, .int .i64 pos, .int .i32 ((dec (n.drop pos)).1 : Nat)]) (iterTo wr w9.heap.size ⟨n.toArray⟩ (pos + (dec (n.drop pos)).2)) := fun ty => by
                          rw [run_next_at ty HIT.out (by rw [HSZ.out]; exact hp), decode_drop n pos hp]
                        have hi1 := iterTo_at (q := pos + (dec (n.drop pos)).2) HIT.out
                        have hig := iterTo_grown wr w9.heap.size ⟨n.toArray⟩ (pos + (dec (n.drop pos)).2)
                        have hip : wr.iterPos w9.heap.size = pos := iterPos_of HIT.out
                        clear hsc hrn hne hit
                        generalize iterTo wr w9.heap.size ⟨n.toArray⟩ (pos + (dec (n.drop pos)).2) = wi at *
                        generalize (dec (n.drop pos)).1 = R at *
                        generalize (dec (n.drop pos)).2 = K at *
                        have HI1 := Lib.hid hi1
                        have hwl1 : w9.heap.size < wi.heap.size := (Array.getElem?_eq_some_iff.1 hi1).1
                        have hbi : Below w9.heap.size w9 wi := hbx.grown hig hbx.size (fun j e => by injection e with e; omega)
                        have HBJ := Lib.hid hbi
                        have HBK : Hid (Below WU.heap.size WU wi) := Lib.hid (HB9.out.trans (hbi.mono hs9))
                        have HEJ := Lib.hid (HE9.out.on hbi)
                        clear hi1 hig hbi hbx HIT HBX
                        have HREL : Hid (∀ W, Below wi.heap.size wi W → ∃ pos, pos ≤ n.length ∧ W.heap[w9.heap.size]? = some (.stringIter ⟨n.toArray⟩ pos) ∧ scs (runes (n.drop pos)) ∧ Below w9.heap.size w9 W) := Lib.hid (fun W hW => ⟨pos + K, by omega, (hW.block _ hwl1).trans HI1.out, HSC2.out, HBJ.out.trans (hW.mono (by omega))⟩)
                        have HMEA : Hid (∀ W, Below wi.heap.size wi W → n.length - W.iterPos w9.heap.size < n.length - pos) := Lib.hid (fun W hW => by rw [iterPos_of ((hW.block _ hwl1).trans HI1.out)]; omega)
                        have hel := enc_len R
                        obtain ⟨MU, hMU⟩ : ∃ m, m = mm (91 :: (A ++ B ++ [93])) (enc R) := ⟨_, rfl⟩
                        obtain ⟨MA, hMA⟩ : ∃ m, m = mm (91 :: (A ++ [93])) (enc R) := ⟨_, rfl⟩
                        obtain ⟨MB, hMB⟩ : ∃ m, m = mm (91 :: (B ++ [93])) (enc R) := ⟨_, rfl⟩
                        have hl := HLAW.out R hscR
                        rw [← hMU, ← hMA, ← hMB] at hl
                        have HMU := Lib.hid hMU.symm
                        have HMA := Lib.hid hMA.symm
                        have HMB := Lib.hid hMB.symm
                        have HY : Hid (∀ W (P N : ByteArray) (pp : Bs) (m : Bool), P.data.toList = pp → N.data.toList = enc R → mm pp (enc R) = m → pp.length ≤ 1000000000 → Below wi.heap.size wi W → Env ae W → Calls Tryd.prog 16 #[.string P, .string N] W fun e w' => e = .returned (.bool m) ∧ Env ae w' ∧ Below wi.heap.size wi w') := Lib.hid (fun W P N pp m hP hN hm hl hW hEW => by
                          have h := yesB ae P N pp (enc R) W hEW hP hN hl (by omega)
                          rw [hm] at h
                          exact h.mono (fun e w' ⟨h1, h2⟩ => ⟨h1, hEW.on h2, hW.trans (h2.mono hW.size)⟩))
                        have HBT2 : Hid (∀ W, Below wi.heap.size wi W → Env ae W → Calls Tryd.prog 26 #[.slice ra trs.length rcap] W fun e w' => e = .returned (S A) ∧ Env ae w' ∧ Below wi.heap.size wi w') := Lib.hid (fun W hW hEW => (HBT.out W (HBK.out.trans (hW.mono HBK.out.size))).mono (fun e w' ⟨h1, h2⟩ => ⟨h1, hEW.on h2, hW.trans (h2.mono hW.size)⟩))
                        have HBU2 : Hid (∀ W, Below wi.heap.size wi W → Env ae W → Calls Tryd.prog 26 #[.slice ub2 urs.length ucap] W fun e w' => e = .returned (S B) ∧ Env ae w' ∧ Below wi.heap.size wi w') := Lib.hid (fun W hW hEW => (HBU.out W (HBK.out.trans (hW.mono HBK.out.size))).mono (fun e w' ⟨h1, h2⟩ => ⟨h1, hEW.on h2, hW.trans (h2.mono hW.size)⟩))
                        have HSK : Hid (∀ W, Below wi.heap.size wi W → W.cell? ⟨wo.heap.size, 3, none⟩ = some (.slice ra trs.length rcap) ∧ W.cell? ⟨wp.heap.size, 3, none⟩ = some (.slice ub2 urs.length ucap)) := Lib.hid (fun W hW => HCT.out W (HBK.out.trans (hW.mono HBK.out.size)))
                        have hB0 : Below wi.heap.size wi wi.drew := ⟨rfl, rfl, rfl, Nat.le_refl _, fun _ _ => rfl⟩
                        have hE0 : Env ae wi.drew := HEJ.out.on hB0
                        have HEN := Lib.hid (encode_enc R)
                        have hl1 : (91 :: (A ++ B ++ [93]) : Bs).length ≤ 1000000000 := by simp; omega
                        have hl2 : (91 :: (A ++ [93]) : Bs).length ≤ 1000000000 := by simp; omega
                        have hl3 : (91 :: (B ++ [93]) : Bs).length ≤ 1000000000 := by simp; omega
                        have q1 : (⟨#[91]⟩ : ByteArray).size = 1 := rfl
                        have q2 : (⟨#[93]⟩ : ByteArray).size = 1 := rfl
                        have q3 : ¬ 9223372036854775807 < 1 + A.length := by omega
                        have q4 : 1 + A.length ≤ 9223372036854775807 := by omega
                        have q5 : ¬ 9223372036854775807 < 1 + A.length + B.length := by omega
                        have q6 : 1 + A.length + B.length ≤ 9223372036854775807 := by omega
                        have q7 : ¬ 9223372036854775807 < 1 + A.length + B.length + 1 := by omega
                        have q8 : 1 + A.length + B.length + 1 ≤ 9223372036854775807 := by omega
                        clear hMU hMA hMB hel HEJ HBK HLAW HBT HBU HCT
                        subst hl
                        cases MA with
                        | false =>
                          cases MB
                          all_goals
                            go_wp2_with fail
                            first | go_region_held3 (fun W => W.cell? ⟨wo.heap.size, 3, none⟩ = some (.slice ra trs.length rcap) ∧ W.cell? ⟨wp.heap.size, 3, none⟩ = some (.slice ub2 urs.length ucap)) (exact HSK.out _ (by assumption)) (first | (go_at_call_of 26 (Value.slice ra trs.length rcap); refine (HBT2.out _ ?_ ?_).mono ?_; (· assumption); (· assumption); rintro e w9' ⟨rfl, hE9, hB9⟩) | (go_at_call 26; refine (HBU2.out _ ?_ ?_).mono ?_; (· assumption); (· assumption); rintro e w9' ⟨rfl, hE9, hB9⟩) | (go_at_call 16; refine (HY.out _ _ _ (91 :: (A ++ B ++ [93])) _ ?_ HEN.out HMU.out hl1 ?_ ?_).mono ?_; (· simp; done); (· assumption); (· assumption); rintro e w9' ⟨rfl, hE9, hB9⟩) | (go_at_call 16; refine (HY.out _ _ _ (91 :: (A ++ [93])) _ ?_ HEN.out HMA.out hl2 ?_ ?_).mono ?_; (· simp; done); (· assumption); (· assumption); rintro e w9' ⟨rfl, hE9, hB9⟩) | (go_at_call 16; refine (HY.out _ _ _ (91 :: (B ++ [93])) _ ?_ HEN.out HMB.out hl3 ?_ ?_).mono ?_; (· simp; done); (· assumption); (· assumption); rintro e w9' ⟨rfl, hE9, hB9⟩)) | go_region_held3 (fun W => W.cell? ⟨wo.heap.size, 3, none⟩ = some (.slice ra trs.length rcap) ∧ W.cell? ⟨wp.heap.size, 3, none⟩ = some (.slice ub2 urs.length ucap)) (exact HSK.out _ (by assumption)) (first | (go_at_call_of 26 (Value.slice ra trs.length rcap); refine (HBT2.out _ ?_ ?_).mono ?_; (· assumption); (· assumption); rintro e w9' ⟨rfl, hE9, hB9⟩) | (go_at_call 26; refine (HBU2.out _ ?_ ?_).mono ?_; (· assumption); (· assumption); rintro e w9' ⟨rfl, hE9, hB9⟩) | (go_at_call 16; refine (HY.out _ _ _ (91 :: (A ++ B ++ [93])) _ ?_ HEN.out HMU.out hl1 ?_ ?_).mono ?_; (· simp; done); (· assumption); (· assumption); rintro e w9' ⟨rfl, hE9, hB9⟩) | (go_at_call 16; refine (HY.out _ _ _ (91 :: (A ++ [93])) _ ?_ HEN.out HMA.out hl2 ?_ ?_).mono ?_; (· simp; done); (· assumption); (· assumption); rintro e w9' ⟨rfl, hE9, hB9⟩) | (go_at_call 16; refine (HY.out _ _ _ (91 :: (B ++ [93])) _ ?_ HEN.out HMB.out hl3 ?_ ?_).mono ?_; (· simp; done); (· assumption); (· assumption); rintro e w9' ⟨rfl, hE9, hB9⟩))
                            all_goals
                              go_wp2
                              go_roundw
                              case rel => first | exact HREL.out _ (by assumption) | ((repeat apply Exists.intro); exact ⟨HREL.out _ (by assumption), rfl⟩)
                              case measure => rw [hip]; exact HMEA.out _ (by assumption)
                        | true =>
                          obtain ⟨k1, k2⟩ := HSK.out wi (Below.refl _ _)
                          have HMU2 : Hid (mm (91 :: (A ++ B ++ [93])) (enc R) = true) := Lib.hid (by rw [HMU.out]; rfl)
                          clear HMU HMB MB hl3
                          go_wp2_with fail
                          first | go_region_with (first | (go_at_call_of 26 (Value.slice ra trs.length rcap); refine (HBT2.out _ ?_ ?_).mono ?_; (· assumption); (· assumption); rintro e w9' ⟨rfl, hE9, hB9⟩; obtain ⟨j1, j2⟩ := HSK.out _ hB9) | (go_at_call 26; refine (HBU2.out _ ?_ ?_).mono ?_; (· assumption); (· assumption); rintro e w9' ⟨rfl, hE9, hB9⟩; obtain ⟨j1, j2⟩ := HSK.out _ hB9) | (go_at_call 16; refine (HY.out _ _ _ (91 :: (A ++ B ++ [93])) _ ?_ HEN.out HMU2.out hl1 ?_ ?_).mono ?_; (· simp; done); (· assumption); (· assumption); rintro e w9' ⟨rfl, hE9, hB9⟩; obtain ⟨j1, j2⟩ := HSK.out _ hB9) | (go_at_call 16; refine (HY.out _ _ _ (91 :: (A ++ [93])) _ ?_ HEN.out HMA.out hl2 ?_ ?_).mono ?_; (· simp; done); (· assumption); (· assumption); rintro e w9' ⟨rfl, hE9, hB9⟩; obtain ⟨j1, j2⟩ := HSK.out _ hB9)) | go_region_with (first | (go_at_call_of 26 (Value.slice ra trs.length rcap); refine (HBT2.out _ ?_ ?_).mono ?_; (· assumption); (· assumption); rintro e w9' ⟨rfl, hE9, hB9⟩; obtain ⟨j1, j2⟩ := HSK.out _ hB9) | (go_at_call 26; refine (HBU2.out _ ?_ ?_).mono ?_; (· assumption); (· assumption); rintro e w9' ⟨rfl, hE9, hB9⟩; obtain ⟨j1, j2⟩ := HSK.out _ hB9) | (go_at_call 16; refine (HY.out _ _ _ (91 :: (A ++ B ++ [93])) _ ?_ HEN.out HMU2.out hl1 ?_ ?_).mono ?_; (· simp; done); (· assumption); (· assumption); rintro e w9' ⟨rfl, hE9, hB9⟩; obtain ⟨j1, j2⟩ := HSK.out _ hB9) | (go_at_call 16; refine (HY.out _ _ _ (91 :: (A ++ [93])) _ ?_ HEN.out HMA.out hl2 ?_ ?_).mono ?_; (· simp; done); (· assumption); (· assumption); rintro e w9' ⟨rfl, hE9, hB9⟩; obtain ⟨j1, j2⟩ := HSK.out _ hB9))
                          all_goals
                            refine put2 (P := fun A => Exit.then _ _ _ A _) 98 99 (by rfl) (by rfl) ?_
                            simp only [Act.put, List.setIfInBounds_toArray, List.set_cons_zero, List.set_cons_succ]
                            go_wp2
                            go_roundw
                            case rel => first | exact HREL.out _ (by first | assumption | exact below_dN (by assumption) _) | ((repeat apply Exists.intro); exact ⟨HREL.out _ (by first | assumption | exact below_dN (by assumption) _), rfl⟩)
                            case measure => rw [hip]; exact HMEA.out _ (by first | assumption | exact below_dN (by assumption) _)
                      · have hnx : ∀ ty, (Instr.next (.pointer (some ⟨w9.heap.size, 0, none⟩)) true ty).run Tryd.prog wr = _ := fun ty => run_next_stop ty HIT.out (by rw [HSZ.out]; exact hp)
                        have HBZ : Hid (Below w7.heap.size w7 wr) := Lib.hid (HBV.out.trans ((HB9.out.trans (hbx.mono hs9)).mono HBV.out.size))
                        clear HBX HIT
                        go_wp2
                        go_roundw
                        case rel => exact ⟨j + 1, by go_num, by omega, HBZ.out⟩
                        case measure => simp [intOf]; omega
                  · clear hWU
                    by_cases kt : tk = 2
                    · subst kt
                      have bu : (((uk : Nat) : Int) != 2) = true := by simp; omega
                      clear kk
                      go_wp2
                      go_roundw
                      case rel => exact ⟨j + 1, by go_num, by omega, HBV.out⟩
                      case measure => simp [intOf]; omega
                    · have bt : (((tk : Nat) : Int) != 2) = true := by simp; omega
                      clear kk kt
                      go_wp2
                      go_roundw
                      case rel => exact ⟨j + 1, by go_num, by omega, HBV.out⟩
                      case measure => simp [intOf]; omega
                · have HBZ : Hid (Below w6.heap.size w6 wr) := Lib.hid (HBW.out.trans ((HB7.out.trans (HB.out.mono HB7.out.size)).mono HBW.out.size))
                  have hji : ¬ (j : Int) < (us.length : Int) := by omega
                  clear HB
                  go_wp2
                  go_roundw
                  case rel => exact ⟨k + 1, by go_num, by omega, HBZ.out⟩
                  case measure => simp [intOf]; omega
            · obtain rfl : k = ts.length := by omega
              have HBF := Lib.hid (HB6.out.trans (HB.out.mono HB6.out.size))
              clear HB HT HG
              go_wp2
              go_ret
              exact ⟨rfl, HBF.out⟩



set_option maxRecDepth 100000 in
theorem lifted (os : Os) (started : os.Started) (H : Type) (enc : TypeId × Value → H) :
    ReturnsInHanded {} Tryd.checked os 9 .any (fun w args => (Rows.fnClassUnionSpec.pre enc Tryd.prog Tryd.f9 Rows.fnClassUnionRow.domain false w args ∧ laidMetH Tryd.prog Rows.fnClassUnionRow.laid w) ∧ sizedMet enc Tryd.prog Tryd.f9 (OpenSpec.ofChange Rows.fnClassUnionSpec) false w args) (Rows.fnClassUnionSpec.post enc Tryd.prog Tryd.f9 false true false false) := by
  refine returnsInHanded_of_change_and (C := Tryd.checked) (X := fun w _ => laidMetH Tryd.prog Rows.fnClassUnionRow.laid w) (fun _ _ _ hh h => h.of_heap hh) own started (by kernel_rfl) Tryd.func9
    (ChangeSpec.witness_shaped (enc := enc) (C := Tryd.checked) (os := os) (X := fun w _ => laidMetH Tryd.prog Rows.fnClassUnionRow.laid w) false (World.laidAll Tryd.prog os Rows.fnClassUnionRow.laid) #[.slice none 0 0] 8 (World.laidAll_os _ _ _)
      (World.shaped_of_ZipB (by kernel_rfl) (by kernel_rfl)) (by kernel_rfl) (by kernel_rfl) (by kernel_rfl)
      (by rw [MakeChecks.laidMetH_plain _ _ _ (by kernel_rfl)]; exact laidMet_laidAll _ (by kernel_rfl) (by kernel_rfl))) ?_
  intro W base args ds gs before hval0 hW hcnd hsz0 hL _
  have hval : ∀ (j : Nat) t v, Tryd.f9.params[j]? = some t → args[j]? = some v → Value.okWide Tryd.prog W .any base t v := hval0
  have hW' := hW
  obtain ⟨p, q, hA0, hV, rfl, hfz, hnd⟩ := hW
  have hA : DataW.TrodAll enc Tryd.prog W 0 (fun _ => true) true Tryd.f9.params.toList args.toList ds p := hA0
  rw [Tryd.params9] at hA hval
  obtain ⟨v0, vs0, d0, ds0, p0, q0, hargs, rfl, rfl, h0, r0⟩ := trodAll_cons hA
  obtain ⟨rfl, rfl, rfl⟩ := trodAll_nil r0
  obtain rfl : args = #[v0] := by cases args; simp_all
  obtain ⟨rfl, rfl⟩ := trodVars_none hV
  obtain ⟨a0, len0, cap0, rfl⟩ := okWide_slice Tryd.underlying22 (hval 0 22 v0 rfl rfl)
  have k0 := h0
  have lt0 : ∀ x ∈ p0, x.block < W.heap.size := by obtain ⟨m, hm⟩ := k0; exact DataW.trod_lt m _ _ _ hm
  obtain ⟨z0, w0⟩ : ∃ zs, IsRow .u8 W a0 len0 cap0 zs := by
    obtain ⟨fuel, hf⟩ := h0
    rcases open_ints Tryd.underlying22 Tryd.underlying5 (by kernel_rfl) hf with ⟨hcs, _⟩ | ⟨x, l, c, zs, hcs, _, hl, hm, hz, _, hcell, hwz⟩
    · simp [Value.cells] at hcs
      obtain ⟨rfl, rfl, rfl⟩ := hcs
      exact ⟨[], .inl ⟨rfl, rfl, rfl, rfl⟩⟩
    · simp [Value.cells] at hcs
      obtain ⟨rfl, rfl, rfl⟩ := hcs
      exact ⟨zs, .inr ⟨_, rfl, hl, hm, by simpa using hz, hcell, hwz⟩⟩
  obtain ⟨ae, hE⟩ := env_of hL
  clear hA0 hval0
  refine (walk a0 len0 cap0 z0 W w0 ae hE).mono fun e W' ⟨he, bel⟩ => ?_
  subst he
  exact ⟨_, rfl, _, _, _, [], _, [], hW', trodAll_mk1 (shut_bool Tryd.underlying4 _), (trodAll_cons_mk (Below.trod laidOut (by kernel_rfl) (of_decide_eq_true (by kernel_rfl)) k0 bel lt0) trodAll_mk0), rfl, bel.frame _, fun h => by cases h⟩

theorem over : Rows.fnClassUnionRow.holds Tryd.pinned (OpenSpec.ofChange Rows.fnClassUnionSpec) :=
  OpenClaim.holds_of_wide 9 Tryd.f9 rfl rfl rfl rfl rfl rfl rfl ⟨rfl, rfl, rfl, rfl, rfl⟩ rfl rfl rfl rfl rfl (by kernel_rfl) Tryd.func9 (by kernel_rfl)
    (of_decide_eq_true (by kernel_rfl)) (by unfold Func.isWrapper; first | (rw [if_pos (by decide +kernel)]; kernel_rfl) | (rw [if_neg (by decide +kernel)]; exact ⟨rfl, rfl⟩))
    (fun os started H enc _ => lifted os started H enc)

theorem proved : Rows.FnClassUnionCardSaid :=
  Claim7.holds_tied_plain_at .later [] Rows.fnClassUnionCard.laidKinds true Rows.fnClassUnionCard.stood.harness true over (fun _ h => by cases h) (by kernel_rfl) (fun _ h => by cases h) fnClassUnion_row_tie rfl ⟨rfl, rfl⟩ (by kernel_rfl) rfl
    (fun f fn hf hfn => by
      obtain rfl : f = 9 := Option.some.inj ((show Tryd.prog.funcNamed Rows.fnClassUnionRow.func = some 9 by kernel_rfl).symm.trans hf) |>.symm
      obtain rfl : fn = Tryd.f9 := (Option.some.inj (Tryd.func9.symm.trans hfn)).symm
      exact ⟨by kernel_rfl, fun j t ht => by
        rw [Tryd.params9] at ht
        have hm : t ∈ [22] := by simpa using Array.mem_of_getElem? ht
        have hall : ([22].all fun u => !Tryd.prog.wantsStandIn u) = true := by kernel_rfl
        exact (show Tryd.prog.wantsStandIn t = false by simpa using List.all_eq_true.1 hall t hm)⟩)
    (by kernel_rfl)
end Go.Proofs.YtlfppmhkgfhecaaDoor.fnClassUnion


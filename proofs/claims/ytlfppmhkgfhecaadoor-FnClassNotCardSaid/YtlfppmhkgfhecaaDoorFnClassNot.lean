/-
  Of a class with a ^ and the same class without it exactly one matches each character: the law returns true for every input and leaves it as it was. Conditions: none.
  The frame round the walk is the kit's own (proof-skeleton.mjs).
-/
import Derived.Test.YtlfppmhkgfhecaaDoorRows
import Derived.Test.YtlfppmhkgfhecaaDoorIterT
import Derived.Test.YtlfppmhkgfhecaaDoorLate
import Derived.Test.YtlfppmhkgfhecaaDoorDrawM
import Derived.Deep.RegionHeld3
import Derived.Test.YtlfppmhkgfhecaaDoorTie
import Derived.Test.YtlfppmhkgfhecaaDoorCards
import Derived.Test.YtlfppmhkgfhecaaDoorLaid
import Derived.LaidMore
import Derived.Lay
import Derived.SevenTiedAt
import Derived.Stop.Joined
namespace Go.Proofs.YtlfppmhkgfhecaaDoor.fnClassNot
open Go.ChangeShapes Go.WideShapes Go.ChangeAt Go.RowKit
open Go.ChangeMaps (open_string shut_string)
set_option linter.unusedVariables false

set_option maxRecDepth 20000 in
set_option maxHeartbeats 8000000 in
theorem walk (a : Option Addr) (len cap : Nat) (zs : List Int) (w : World) (hr : IsRow .u8 w a len cap zs) (ae : Addr) (hE : Env ae w) :
    Calls Tryd.prog 8 #[.slice a len cap] w fun e w' => e = .returned (.bool true) ∧ Below w.heap.size w w' := by
  have HR := Lib.hid hr
  have HE := Lib.hid hE
  clear hr hE
  by_cases hlen : 1048576 < len
  · have hl' : (1048576 : Int) < len := by omega
    go_enter Tryd.func8, Tryd.ntmps8
    go_wp2
    go_ret
    exact ⟨rfl, Below.refl _ _⟩
  · have hl' : ¬ (1048576 : Int) < len := by omega
    go_enter Tryd.func8, Tryd.ntmps8
    go_wp2_with fail
    refine (drawMatch_any a len cap zs _ HR.out (by omega)).mono ?_
    rintro e w1 ⟨p, n, rfl, hpl, hnl, hb⟩
    have HE1 := Lib.hid (HE.out.on hb)
    have HB1 := Lib.hid hb
    clear hb HR HE
    go_wp2_with fail
    refine (wellFormedB ae _ p w1 HE1.out rfl (by omega)).mono ?_
    rintro e w2 ⟨rfl, hb⟩
    have HE2 := Lib.hid (HE1.out.on hb)
    have HB2 := Lib.hid (HB1.out.trans (hb.mono HB1.out.size))
    clear hb HE1 HB1
    generalize hA : wfB p = A
    have HA := Lib.hid hA
    clear hA
    cases A with
    | false =>
      go_wp2
      go_ret
      exact ⟨rfl, HB2.out⟩
    | true =>
      go_wp2_with fail
      refine (validB ae _ n w2 HE2.out rfl (by omega)).mono ?_
      rintro e w3 ⟨rfl, hb⟩
      have HE3 := Lib.hid (HE2.out.on hb)
      have HB3 := Lib.hid (HB2.out.trans (hb.mono HB2.out.size))
      clear hb HE2 HB2
      generalize hV : Lib.validD n = V
      have HV := Lib.hid hV
      clear hV
      cases V with
      | false =>
        go_wp2
        go_ret
        exact ⟨rfl, HB3.out⟩
      | true =>
        obtain ⟨ts, hrd, hpa, hgood, _, _⟩ := wf_terms HA.out
        have hwt := read_weight' p ts hrd
        have hwl := weight_len ts
        have HG : Hid (∀ t ∈ ts, goodTm t) := Lib.hid hgood
        have HRD := Lib.hid hrd
        have HSC : Hid (scs (runes n)) := Lib.hid (valid_runes _ n (Nat.le_refl _) HV.out).1
        have hsz : (⟨n.toArray⟩ : ByteArray).size = n.length := by simp [ByteArray.size]
        have HSZ := Lib.hid hsz
        clear hrd hpa hgood HA HV hsz
        have hfd := fld0
        go_wp2_with fail
        refine (readB _ p w3 rfl (by omega)).mono ?_
        rintro e w5 ⟨hb, va, vn, vc, rfl, hts⟩
        obtain ⟨rfl, htm⟩ := hts ts HRD.out
        have HT := Lib.hid htm
        have HE5 := Lib.hid (HE3.out.on hb)
        have HB5 := Lib.hid (HB3.out.trans (hb.mono HB3.out.size))
        generalize rdOk p = OK
        generalize rdSet p = ST
        clear hb HE3 HB3 hts htm
        clear HRD
        go_wp2
        go_loopw [30] (fun i wr => ∃ (k : Nat), i = .int .i64 (k : Nat) ∧ k ≤ ts.length ∧ Below w5.heap.size w5 wr) (fun i _ => ts.length - (intOf i).toNat)
        case atStart => exact ⟨0, rfl, by omega, Below.refl _ _⟩
        case round =>
          obtain ⟨k, rfl, hk, hb⟩ := hrel
          have HB := Lib.hid hb
          clear hb
          by_cases hkl : k < ts.length
          · obtain ⟨t, htk⟩ : ∃ t, ts[k]? = some t := ⟨_, List.getElem?_eq_getElem hkl⟩
            obtain ⟨a', cap', e', _, hcells⟩ := HT.out.below HB.out
            obtain ⟨g, o, rv, rfl, hlo, hlt, c1, c2, c3, c4, hrg⟩ := hcells k t htk
            injection e' with e1 e2 e3
            subst e1 e3
            clear e2 hcells
            have HGT := Lib.hid (HG.out t (List.mem_of_getElem? htk))
            obtain ⟨n1, n2, n3⟩ := good_ok HGT.out
            have hwtk := weight_at' htk
            have HN3 := Lib.hid n3
            have HRG := Lib.hid hrg
            obtain ⟨ra, rcap, rfl, _⟩ := hrg
            have s1 : (k : Int) < (ts.length : Int) := by omega
            have s2 : (0 : Int) ≤ (k : Int) := by omega
            clear n3 htk
            obtain ⟨tk, tc, tn, trs⟩ := t
            simp only at c1 c2 c3 c4 n1 n2 hwtk HGT HN3 HRG
            obtain ⟨wo, hwo⟩ : ∃ x, x = wr := ⟨_, rfl⟩
            subst hwo
            have HBW := Lib.hid HB.out
            have hsz0 : (wo.alloc (.cells #[.int .i64 (tk : Nat), .int .i32 (tc : Nat), .bool tn, .slice ra trs.length rcap] 33)).heap.size = wo.heap.size + 1 := by simp
            have hblk2 : ((wo.alloc (.cells #[.int .i64 (tk : Nat), .int .i32 (tc : Nat), .bool tn, .slice ra trs.length rcap] 33)).alloc (.cells #[.int .i64 (tk : Nat), .int .i32 (tc : Nat), .bool (!tn), .slice ra trs.length rcap] 33)).heap[wo.heap.size + 1]? = some (.cells #[.int .i64 (tk : Nat), .int .i32 (tc : Nat), .bool (!tn), .slice ra trs.length rcap] 33 (0, 0)) := by have := heap_alloc_new (wo.alloc (.cells #[.int .i64 (tk : Nat), .int .i32 (tc : Nat), .bool tn, .slice ra trs.length rcap] 33)) (.cells #[.int .i64 (tk : Nat), .int .i32 (tc : Nat), .bool (!tn), .slice ra trs.length rcap] 33); rw [hsz0] at this; exact this
            have HD0 : Hid (Below wo.heap.size wo ((wo.alloc (.cells #[.int .i64 (tk : Nat), .int .i32 (tc : Nat), .bool tn, .slice ra trs.length rcap] 33)).alloc (.cells #[.int .i64 (tk : Nat), .int .i32 (tc : Nat), .bool (!tn), .slice ra trs.length rcap] 33))) := Lib.hid (((Below.refl _ _).alloc (Nat.le_refl _) _).alloc (by simp) _)
            have hsz1 : ((wo.alloc (.cells #[.int .i64 (tk : Nat), .int .i32 (tc : Nat), .bool tn, .slice ra trs.length rcap] 33)).alloc (.cells #[.int .i64 (tk : Nat), .int .i32 (tc : Nat), .bool (!tn), .slice ra trs.length rcap] 33)).heap.size = wo.heap.size + 2 := by simp
            have HBLK : Hid (((wo.alloc (.cells #[.int .i64 (tk : Nat), .int .i32 (tc : Nat), .bool tn, .slice ra trs.length rcap] 33)).alloc (.cells #[.int .i64 (tk : Nat), .int .i32 (tc : Nat), .bool (!tn), .slice ra trs.length rcap] 33)).heap[wo.heap.size]? = some (.cells #[.int .i64 (tk : Nat), .int .i32 (tc : Nat), .bool tn, .slice ra trs.length rcap] 33 (0, 0))) := Lib.hid (((World.grownBy_alloc (wo.alloc (.cells #[.int .i64 (tk : Nat), .int .i32 (tc : Nat), .bool tn, .slice ra trs.length rcap] 33)) _ none).block wo.heap.size (by omega) (by simp)).trans (heap_alloc_new wo _))
            obtain ⟨q0, q1, q2, q3, _, _, _, _⟩ := blk4 hblk2
            have HO0 := Lib.hid q0
            have HO1 := Lib.hid q1
            have HO2 := Lib.hid q2
            have HO3 := Lib.hid q3
            clear q0 q1 q2 q3 hblk2 hsz0
            have HRA : Hid (RgRd 0 ((wo.alloc (.cells #[.int .i64 (tk : Nat), .int .i32 (tc : Nat), .bool tn, .slice ra trs.length rcap] 33)).alloc (.cells #[.int .i64 (tk : Nat), .int .i32 (tc : Nat), .bool (!tn), .slice ra trs.length rcap] 33)) (.slice ra trs.length rcap) trs) := Lib.hid ((HRG.out.low (Nat.zero_le _)).below HD0.out)
            have HEW := Lib.hid (HE5.out.on HB.out)
            have HBW0 := Lib.hid (HB5.out.trans (HB.out.mono HB5.out.size))
            clear HRG
            go_wp2
            go_loopw [9] (fun _ wr => ∃ (pos : Nat), pos ≤ n.length ∧ wr.heap[wo.heap.size + 2]? = some (.stringIter ⟨n.toArray⟩ pos) ∧ scs (runes (n.drop pos)) ∧ Below (wo.heap.size + 2) ((wo.alloc (.cells #[.int .i64 (tk : Nat), .int .i32 (tc : Nat), .bool tn, .slice ra trs.length rcap] 33)).alloc (.cells #[.int .i64 (tk : Nat), .int .i32 (tc : Nat), .bool (!tn), .slice ra trs.length rcap] 33)) wr) (fun _ wr => n.length - wr.iterPos (wo.heap.size + 2))
            case atStart => exact ⟨0, Nat.zero_le _, by have := World.iter_heap ((wo.alloc (.cells #[.int .i64 (tk : Nat), .int .i32 (tc : Nat), .bool tn, .slice ra trs.length rcap] 33)).alloc (.cells #[.int .i64 (tk : Nat), .int .i32 (tc : Nat), .bool (!tn), .slice ra trs.length rcap] 33)) ⟨n.toArray⟩ 0; rw [hsz1] at this; exact this, HSC.out, (Below.refl _ _).alloc (by omega) _⟩
            case round =>
              obtain ⟨pos, hpos, hit, hsc, hbx⟩ := hrel
              have HBX := Lib.hid hbx
              have HIT := Lib.hid hit
              have hblk : wr.heap[wo.heap.size]? = _ := (hbx.block wo.heap.size (by omega)).trans HBLK.out
              obtain ⟨d0, d1, d2, d3, _, _, _, _⟩ := blk4 hblk
              by_cases hp : pos < n.length
              · have hne : n.drop pos ≠ [] := by intro e; have := congrArg List.length e; rw [List.length_drop, List.length_nil] at this; omega
                have hge := dec_ge hne
                have hle := dec_le (n.drop pos)
                rw [List.length_drop] at hle
                have hrn := runes_ne _ hne
                rw [List.drop_drop] at hrn
                rw [hrn] at hsc
                have hscR : sc (dec (n.drop pos)).1 := hsc _ List.mem_cons_self
                have HSC2 : Hid (scs (runes (n.drop (pos + (dec (n.drop pos)).2)))) := Lib.hid (fun x hx => hsc x (List.mem_cons_of_mem _ hx))
                have hnx : ∀ ty, (Instr.next (.pointer (some ⟨wo.heap.size + 2, 0, none⟩)) true ty).run Tryd.prog wr = .ok (.tuple #[.bool true, .int .i64 pos, .int .i32 ((dec (n.drop pos)).1 : Nat)]) (iterTo wr (wo.heap.size + 2) ⟨n.toArray⟩ (pos + (dec (n.drop pos)).2)) := fun ty => by
                  rw [run_next_at ty HIT.out (by rw [HSZ.out]; exact hp), decode_drop n pos hp]
                have hi1 := iterTo_at (q := pos + (dec (n.drop pos)).2) HIT.out
                have hig := iterTo_grown wr (wo.heap.size + 2) ⟨n.toArray⟩ (pos + (dec (n.drop pos)).2)
                have hip : wr.iterPos (wo.heap.size + 2) = pos := iterPos_of HIT.out
                have hRl : (dec (n.drop pos)).1 ≤ 2147483647 := by unfold sc at hscR; omega
                clear hsc hrn hne hblk
                generalize iterTo wr (wo.heap.size + 2) ⟨n.toArray⟩ (pos + (dec (n.drop pos)).2) = wi at *
                generalize (dec (n.drop pos)).1 = R at *
                generalize (dec (n.drop pos)).2 = K at *
                have HI1 := Lib.hid hi1
                have hwl1 : wo.heap.size + 2 < wi.heap.size := (Array.getElem?_eq_some_iff.1 hi1).1
                have f0 := hig.cell d0 (by simp)
                have f1 := hig.cell d1 (by simp)
                have f2 := hig.cell d2 (by simp)
                have f3 := hig.cell d3 (by simp)
                have g0 := hig.cell ((HBX.out.cell (p := ⟨wo.heap.size + 1, 0, none⟩) (by show wo.heap.size + 1 < _; omega)).trans HO0.out) (by simp)
                have g1 := hig.cell ((HBX.out.cell (p := ⟨wo.heap.size + 1, 1, none⟩) (by show wo.heap.size + 1 < _; omega)).trans HO1.out) (by simp)
                have g2 := hig.cell ((HBX.out.cell (p := ⟨wo.heap.size + 1, 2, none⟩) (by show wo.heap.size + 1 < _; omega)).trans HO2.out) (by simp)
                have g3 := hig.cell ((HBX.out.cell (p := ⟨wo.heap.size + 1, 3, none⟩) (by show wo.heap.size + 1 < _; omega)).trans HO3.out) (by simp)
                have hbi : Below (wo.heap.size + 2) ((wo.alloc (.cells #[.int .i64 (tk : Nat), .int .i32 (tc : Nat), .bool tn, .slice ra trs.length rcap] 33)).alloc (.cells #[.int .i64 (tk : Nat), .int .i32 (tc : Nat), .bool (!tn), .slice ra trs.length rcap] 33)) wi := HBX.out.grown hig (by have := HBX.out.size; omega) (fun j e => by injection e with e; omega)
                have HBJ := Lib.hid hbi
                have hbwi : Below wo.heap.size wo wi := HD0.out.trans (hbi.mono (by omega))
                have HEJ := Lib.hid (HEW.out.on hbwi)
                have HBWJ := Lib.hid (HBW0.out.trans (hbwi.mono HBW0.out.size))
                have HRJ := Lib.hid (HRA.out.below (hbi.mono (by rw [hsz1]; exact Nat.le_refl _)))
                clear hi1 hig d0 d1 d2 d3 hbi hbwi HIT
                have HREL : Hid (∀ W, Below wi.heap.size wi W → ∃ pos, pos ≤ n.length ∧ W.heap[wo.heap.size + 2]? = some (.stringIter ⟨n.toArray⟩ pos) ∧ scs (runes (n.drop pos)) ∧ Below (wo.heap.size + 2) ((wo.alloc (.cells #[.int .i64 (tk : Nat), .int .i32 (tc : Nat), .bool tn, .slice ra trs.length rcap] 33)).alloc (.cells #[.int .i64 (tk : Nat), .int .i32 (tc : Nat), .bool (!tn), .slice ra trs.length rcap] 33)) W) := Lib.hid (fun W hW => ⟨pos + K, by omega, (hW.block _ hwl1).trans HI1.out, HSC2.out, HBJ.out.trans (hW.mono (by omega))⟩)
                have HMEA : Hid (∀ W, Below wi.heap.size wi W → n.length - W.iterPos (wo.heap.size + 2) < n.length - pos) := Lib.hid (fun W hW => by rw [iterPos_of ((hW.block _ hwl1).trans HI1.out)]; omega)
                by_cases k2 : tk = 2
                · subst k2
                  obtain ⟨FQ, hFQ⟩ : ∃ FQ : Bool → Bs, FQ = fun b => writeW ⟨2, tc, b, trs⟩ := ⟨_, rfl⟩
                  obtain ⟨m, hm⟩ : ∃ m, m = mm (FQ tn) (enc R) := ⟨_, rfl⟩
                  have hlaw : mm (FQ (!tn)) (enc R) = !m := by rw [hm, hFQ]; exact law_classNot HGT.out rfl hscR
                  have hel := enc_len R
                  have hql2 : ∀ b, (FQ b).length ≤ 1000000000 := fun b => by rw [hFQ]; have := writeW_len ⟨2, tc, b, trs⟩; simp only at this ⊢; omega
                  have HW : Hid (∀ W b, Below wi.heap.size wi W → Env ae W → Calls Tryd.prog 23 #[.agg #[.int .i64 2, .int .i32 (tc : Nat), .bool b, .slice ra trs.length rcap]] W fun e w' => e = .returned (S (FQ b)) ∧ Env ae w' ∧ Below wi.heap.size wi w') := Lib.hid (fun W b hW hEW => by
                    have h := write_call 0 ⟨2, tc, b, trs⟩ (.slice ra trs.length rcap) W (HRJ.out.below hW) n1 n2 (by show trs.length ≤ _; omega) HN3.out
                    have e : writeW ⟨2, tc, b, trs⟩ = FQ b := by rw [hFQ]
                    rw [e] at h
                    exact h.mono (fun e w' ⟨h1, h2⟩ => ⟨h1, hEW.on h2, hW.trans (h2.mono hW.size)⟩))
                  obtain ⟨G, hG⟩ : ∃ G : Bool → Bool, G = fun b => mm (FQ b) (enc R) := ⟨_, rfl⟩
                  have hG1 : G tn = m := by rw [hG, hm]
                  have hG2 : G (!tn) = !m := by rw [hG]; exact hlaw
                  have HY : Hid (∀ W b (N : ByteArray), N.data.toList = enc R → Below wi.heap.size wi W → Env ae W → Calls Tryd.prog 16 #[S (FQ b), .string N] W fun e w' => e = .returned (.bool (G b)) ∧ Env ae w' ∧ Below wi.heap.size wi w') := Lib.hid (fun W b N hN hW hEW => by
                    have h := yesB ae ⟨(FQ b).toArray⟩ N (FQ b) (enc R) W hEW rfl hN (hql2 b) (by omega)
                    have e : mm (FQ b) (enc R) = G b := by rw [hG]
                    rw [e] at h
                    exact h.mono (fun e w' ⟨h1, h2⟩ => ⟨h1, hEW.on h2, hW.trans (h2.mono hW.size)⟩))
                  have HSK : Hid (∀ W, Below wi.heap.size wi W → W.cell? ⟨wo.heap.size, 0, none⟩ = some (.int .i64 2) ∧ W.cell? ⟨wo.heap.size, 1, none⟩ = some (.int .i32 (tc : Nat)) ∧ W.cell? ⟨wo.heap.size, 2, none⟩ = some (.bool tn) ∧ W.cell? ⟨wo.heap.size, 3, none⟩ = some (.slice ra trs.length rcap) ∧ W.cell? ⟨wo.heap.size + 1, 0, none⟩ = some (.int .i64 2) ∧ W.cell? ⟨wo.heap.size + 1, 1, none⟩ = some (.int .i32 (tc : Nat)) ∧ W.cell? ⟨wo.heap.size + 1, 2, none⟩ = some (.bool (!tn)) ∧ W.cell? ⟨wo.heap.size + 1, 3, none⟩ = some (.slice ra trs.length rcap)) := Lib.hid (fun W hW => ⟨(hW.cell (p := ⟨wo.heap.size, 0, none⟩) (by show wo.heap.size < _; omega)).trans f0, (hW.cell (p := ⟨wo.heap.size, 1, none⟩) (by show wo.heap.size < _; omega)).trans f1, (hW.cell (p := ⟨wo.heap.size, 2, none⟩) (by show wo.heap.size < _; omega)).trans f2, (hW.cell (p := ⟨wo.heap.size, 3, none⟩) (by show wo.heap.size < _; omega)).trans f3, (hW.cell (p := ⟨wo.heap.size + 1, 0, none⟩) (by show wo.heap.size + 1 < _; omega)).trans g0, (hW.cell (p := ⟨wo.heap.size + 1, 1, none⟩) (by show wo.heap.size + 1 < _; omega)).trans g1, (hW.cell (p := ⟨wo.heap.size + 1, 2, none⟩) (by show wo.heap.size + 1 < _; omega)).trans g2, (hW.cell (p := ⟨wo.heap.size + 1, 3, none⟩) (by show wo.heap.size + 1 < _; omega)).trans g3⟩)
                  have hB0 : Below wi.heap.size wi wi.drew := ⟨rfl, rfl, rfl, Nat.le_refl _, fun _ _ => rfl⟩
                  have hE0 : Env ae wi.drew := HEJ.out.on hB0
                  have HEN := Lib.hid (encode_enc R)
                  clear hFQ hm hlaw hel hql2 HRJ HEJ HGT HN3 hG
                  cases m
                  all_goals
                    go_wp2_with fail
                    first | go_region_held3 (fun W => W.cell? ⟨wo.heap.size, 0, none⟩ = some (.int .i64 2) ∧ W.cell? ⟨wo.heap.size, 1, none⟩ = some (.int .i32 (tc : Nat)) ∧ W.cell? ⟨wo.heap.size, 2, none⟩ = some (.bool tn) ∧ W.cell? ⟨wo.heap.size, 3, none⟩ = some (.slice ra trs.length rcap) ∧ W.cell? ⟨wo.heap.size + 1, 0, none⟩ = some (.int .i64 2) ∧ W.cell? ⟨wo.heap.size + 1, 1, none⟩ = some (.int .i32 (tc : Nat)) ∧ W.cell? ⟨wo.heap.size + 1, 2, none⟩ = some (.bool (!tn)) ∧ W.cell? ⟨wo.heap.size + 1, 3, none⟩ = some (.slice ra trs.length rcap)) (exact HSK.out _ (by assumption)) (first | (go_at_call 23; refine (HW.out _ _ ?_ ?_).mono ?_; (· assumption); (· assumption); rintro e w9 ⟨rfl, hE9, hB9⟩) | (go_at_call 16; refine (HY.out _ _ _ HEN.out ?_ ?_).mono ?_; (· assumption); (· assumption); rintro e w9 ⟨rfl, hE9, hB9⟩)) | go_region_held3 (fun W => W.cell? ⟨wo.heap.size, 0, none⟩ = some (.int .i64 2) ∧ W.cell? ⟨wo.heap.size, 1, none⟩ = some (.int .i32 (tc : Nat)) ∧ W.cell? ⟨wo.heap.size, 2, none⟩ = some (.bool tn) ∧ W.cell? ⟨wo.heap.size, 3, none⟩ = some (.slice ra trs.length rcap) ∧ W.cell? ⟨wo.heap.size + 1, 0, none⟩ = some (.int .i64 2) ∧ W.cell? ⟨wo.heap.size + 1, 1, none⟩ = some (.int .i32 (tc : Nat)) ∧ W.cell? ⟨wo.heap.size + 1, 2, none⟩ = some (.bool (!tn)) ∧ W.cell? ⟨wo.heap.size + 1, 3, none⟩ = some (.slice ra trs.length rcap)) (exact HSK.out _ (by assumption)) (first | (go_at_call 23; refine (HW.out _ _ ?_ ?_).mono ?_; (· assumption); (· assumption); rintro e w9 ⟨rfl, hE9, hB9⟩) | (go_at_call 16; refine (HY.out _ _ _ HEN.out ?_ ?_).mono ?_; (· assumption); (· assumption); rintro e w9 ⟨rfl, hE9, hB9⟩))
                    all_goals
                      go_wp2
                      go_roundw
                      case rel => first | exact HREL.out _ (by assumption) | ((repeat apply Exists.intro); exact ⟨HREL.out _ (by assumption), rfl⟩)
                      case measure => rw [hip]; exact HMEA.out _ (by assumption)
                · have b2 : (((tk : Nat) : Int) == 2) = false := by simp; omega
                  clear k2 HGT HN3
                  go_wp2_with fail
                  go_quiet (fail)
                  go_wp2
                  go_roundw
                  case rel => exact HREL.out _ (below_dN (Below.refl _ _) _)
                  case measure => rw [hip]; exact HMEA.out _ (below_dN (Below.refl _ _) _)
              · have hnx : ∀ ty, (Instr.next (.pointer (some ⟨wo.heap.size + 2, 0, none⟩)) true ty).run Tryd.prog wr = _ := fun ty => run_next_stop ty HIT.out (by rw [HSZ.out]; exact hp)
                have HBZ : Hid (Below w5.heap.size w5 wr) := Lib.hid (HBW.out.trans ((HD0.out.trans (HBX.out.mono (by omega))).mono HBW.out.size))
                clear HBX HIT
                go_wp2
                go_roundw
                case rel => exact ⟨k + 1, by go_num, by omega, HBZ.out⟩
                case measure => simp [intOf]; omega
          · obtain rfl : k = ts.length := by omega
            have HBF := Lib.hid (HB5.out.trans (HB.out.mono HB5.out.size))
            clear HB HT HG
            go_wp2
            go_ret
            exact ⟨rfl, HBF.out⟩



set_option maxRecDepth 100000 in
theorem lifted (os : Os) (started : os.Started) (H : Type) (enc : TypeId × Value → H) :
    ReturnsInHanded {} Tryd.checked os 8 .any (fun w args => (Rows.fnClassNotSpec.pre enc Tryd.prog Tryd.f8 Rows.fnClassNotRow.domain false w args ∧ laidMetH Tryd.prog Rows.fnClassNotRow.laid w) ∧ sizedMet enc Tryd.prog Tryd.f8 (OpenSpec.ofChange Rows.fnClassNotSpec) false w args) (Rows.fnClassNotSpec.post enc Tryd.prog Tryd.f8 false true false false) := by
  refine returnsInHanded_of_change_and (C := Tryd.checked) (X := fun w _ => laidMetH Tryd.prog Rows.fnClassNotRow.laid w) (fun _ _ _ hh h => h.of_heap hh) own started (by kernel_rfl) Tryd.func8
    (ChangeSpec.witness_shaped (enc := enc) (C := Tryd.checked) (os := os) (X := fun w _ => laidMetH Tryd.prog Rows.fnClassNotRow.laid w) false (World.laidAll Tryd.prog os Rows.fnClassNotRow.laid) #[.slice none 0 0] 8 (World.laidAll_os _ _ _)
      (World.shaped_of_ZipB (by kernel_rfl) (by kernel_rfl)) (by kernel_rfl) (by kernel_rfl) (by kernel_rfl)
      (by rw [MakeChecks.laidMetH_plain _ _ _ (by kernel_rfl)]; exact laidMet_laidAll _ (by kernel_rfl) (by kernel_rfl))) ?_
  intro W base args ds gs before hval0 hW hcnd hsz0 hL _
  have hval : ∀ (j : Nat) t v, Tryd.f8.params[j]? = some t → args[j]? = some v → Value.okWide Tryd.prog W .any base t v := hval0
  have hW' := hW
  obtain ⟨p, q, hA0, hV, rfl, hfz, hnd⟩ := hW
  have hA : DataW.TrodAll enc Tryd.prog W 0 (fun _ => true) true Tryd.f8.params.toList args.toList ds p := hA0
  rw [Tryd.params8] at hA hval
  obtain ⟨v0, vs0, d0, ds0, p0, q0, hargs, rfl, rfl, h0, r0⟩ := trodAll_cons hA
  obtain ⟨rfl, rfl, rfl⟩ := trodAll_nil r0
  obtain rfl : args = #[v0] := by cases args; simp_all
  obtain ⟨rfl, rfl⟩ := trodVars_none hV
  obtain ⟨a0, len0, cap0, rfl⟩ := okWide_slice Tryd.underlying22 (hval 0 22 v0 rfl rfl)
  have k0 := h0
  have lt0 : ∀ x ∈ p0, x.block < W.heap.size := by obtain ⟨m, hm⟩ := k0; exact DataW.trod_lt m _ _ _ hm
  obtain ⟨z0, w0⟩ : ∃ zs, IsRow .u8 W a0 len0 cap0 zs := by
    obtain ⟨fuel, hf⟩ := h0
    rcases open_ints Tryd.underlying22 Tryd.underlying5 (by kernel_rfl) hf with ⟨hcs, _⟩ | ⟨x, l, c, zs, hcs, _, hl, hm, hz, _, hcell, hwz⟩
    · simp [Value.cells] at hcs
      obtain ⟨rfl, rfl, rfl⟩ := hcs
      exact ⟨[], .inl ⟨rfl, rfl, rfl, rfl⟩⟩
    · simp [Value.cells] at hcs
      obtain ⟨rfl, rfl, rfl⟩ := hcs
      exact ⟨zs, .inr ⟨_, rfl, hl, hm, by simpa using hz, hcell, hwz⟩⟩
  obtain ⟨ae, hE⟩ := env_of hL
  clear hA0 hval0
  refine (walk a0 len0 cap0 z0 W w0 ae hE).mono fun e W' ⟨he, bel⟩ => ?_
  subst he
  exact ⟨_, rfl, _, _, _, [], _, [], hW', trodAll_mk1 (shut_bool Tryd.underlying4 _), (trodAll_cons_mk (Below.trod laidOut (by kernel_rfl) (of_decide_eq_true (by kernel_rfl)) k0 bel lt0) trodAll_mk0), rfl, bel.frame _, fun h => by cases h⟩

theorem over : Rows.fnClassNotRow.holds Tryd.pinned (OpenSpec.ofChange Rows.fnClassNotSpec) :=
  OpenClaim.holds_of_wide 8 Tryd.f8 rfl rfl rfl rfl rfl rfl rfl ⟨rfl, rfl, rfl, rfl, rfl⟩ rfl rfl rfl rfl rfl (by kernel_rfl) Tryd.func8 (by kernel_rfl)
    (of_decide_eq_true (by kernel_rfl)) (by unfold Func.isWrapper; first | (rw [if_pos (by decide +kernel)]; kernel_rfl) | (rw [if_neg (by decide +kernel)]; exact ⟨rfl, rfl⟩))
    (fun os started H enc _ => lifted os started H enc)

theorem proved : Rows.FnClassNotCardSaid :=
  Claim7.holds_tied_plain_at .later [] Rows.fnClassNotCard.laidKinds true Rows.fnClassNotCard.stood.harness true over (fun _ h => by cases h) (by kernel_rfl) (fun _ h => by cases h) fnClassNot_row_tie rfl ⟨rfl, rfl⟩ (by kernel_rfl) rfl
    (fun f fn hf hfn => by
      obtain rfl : f = 8 := Option.some.inj ((show Tryd.prog.funcNamed Rows.fnClassNotRow.func = some 8 by kernel_rfl).symm.trans hf) |>.symm
      obtain rfl : fn = Tryd.f8 := (Option.some.inj (Tryd.func8.symm.trans hfn)).symm
      exact ⟨by kernel_rfl, fun j t ht => by
        rw [Tryd.params8] at ht
        have hm : t ∈ [22] := by simpa using Array.mem_of_getElem? ht
        have hall : ([22].all fun u => !Tryd.prog.wantsStandIn u) = true := by kernel_rfl
        exact (show Tryd.prog.wantsStandIn t = false by simpa using List.all_eq_true.1 hall t hm)⟩)
    (by kernel_rfl)
end Go.Proofs.YtlfppmhkgfhecaaDoor.fnClassNot


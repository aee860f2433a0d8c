/-
  spec.class: its contract. Conditions: none beyond those of each theorem.
-/
import Derived.Test.YtcoaoheakeodoaaDoorReadA
namespace Go.Proofs.YtcoaoheakeodoaaDoor
open Go.ChangeShapes Go.WideShapes Go.ChangeAt Go.RowKit

/-- Ranges as integers. -/
def zr (rs : List (Nat × Nat)) : List (Int × Int) := rs.map fun r => (((r.1 : Nat) : Int), ((r.2 : Nat) : Int))
theorem zr_snoc (rs : List (Nat × Nat)) (a b : Nat) : zr (rs ++ [(a, b)]) = zr rs ++ [((a : Int), (b : Int))] := by simp [zr]
theorem zr_len (rs : List (Nat × Nat)) : (zr rs).length = rs.length := by simp [zr]

/-- Ranges that have been read, ahead of what comes of the others. -/
def CR.pre (rs : List (Nat × Nat)) : CR → CR
  | .good xs t => .good (rs ++ xs) t
  | .bad s => .bad s
theorem CR.pre_nil (c : CR) : c.pre [] = c := by cases c <;> rfl
theorem CR.pre_push (rs : List (Nat × Nat)) (r : Nat × Nat) (c : CR) : (c.push r).pre rs = c.pre (rs ++ [r]) := by
  cases c with
  | good xs t => simp [CR.push, CR.pre]
  | bad s => rfl

/-- What spec.class returns. -/
def ClassPost (cs : List Nat) (i : Nat) (w : World) (e : Ending) (w' : World) : Prop := Below w.heap.size w w' ∧
  ((∃ (s b : Bool) (ra : Option Addr) (rn rc : Nat) (y : Nat), (classR (cs.drop i)).2 = .bad s ∧ e = .returned (.tuple #[.agg #[.int .i64 2, .int .i32 0, .bool b, .slice ra rn rc], .int .i64 (y : Nat), .bool false, .bool s])) ∨
   (∃ (rs : List (Nat × Nat)) (j : Nat) (ra : Option Addr) (rn rc : Nat), (classR (cs.drop i)).2 = .good rs (cs.drop j) ∧ i < j ∧ j ≤ cs.length ∧ rs.length ≤ cs.length ∧
      e = .returned (.tuple #[.agg #[.int .i64 2, .int .i32 0, .bool (classR (cs.drop i)).1, .slice ra rn rc], .int .i64 (j : Nat), .bool true, .bool true]) ∧
      RangesAt w' (.slice ra rn rc) (zr rs) ∧ (∀ k, (Value.slice ra rn rc).ownBlock = some k → w.heap.size ≤ k ∧ k < w'.heap.size)))

theorem ClassPost.drew {cs : List Nat} {i : Nat} {w : World} {e : Ending} {w' : World} (h : ClassPost cs i w e w') : ClassPost cs i w e w'.drew := ⟨⟨h.1.os, h.1.tape, h.1.output, h.1.size, h.1.block⟩, h.2⟩

/-- The loop of spec.class: N: the inverting sign; i0: where the ranges begin. -/
def ClassRel (cs : List Nat) (i0 : Nat) (N : Bool) (w : World) (ix : Value) (wr : World) : Prop :=
  ∃ (k : Nat) (rs : List (Nat × Nat)) (rv : Value), ix = .int .i64 (k : Nat) ∧ i0 ≤ k ∧ k ≤ cs.length ∧ rs.length + i0 ≤ k ∧
    wr.heap[w.heap.size + 1]? = some (.cells #[.int .i64 2, .int .i32 0, .bool N, rv] 33 (0, 0)) ∧
    wr.heap[w.heap.size]? = some (.cells #[.int .i64 0, .int .i32 0, .bool false, .slice none 0 0] 33 (0, 0)) ∧
    OwnR (w.heap.size + 2) wr rv (zr rs) ∧ clsR (cs.drop i0) 0 = (clsR (cs.drop k) rs.length).pre rs ∧ Below w.heap.size w wr

theorem OwnR.form {B : Nat} {w : World} {v : Value} {rs : List (Int × Int)} (h : OwnR B w v rs) : ∃ a c, v = .slice a rs.length c := by
  have h1 : w.ownsRow B 63 2 v rs.length (rcells rs) := h
  obtain ⟨_, h3 | ⟨g, cap, cur, e1, _⟩⟩ := h1
  · exact ⟨none, 0, by rw [h3.2]; exact h3.1⟩
  · exact ⟨_, _, e1⟩

theorem two_one (a b : Int) : ∀ u ∈ [Value.int .i32 a, Value.int .i32 b], u.oneCell' = true := by
  intro u hu
  simp at hu
  rcases hu with rfl | rfl <;> rfl

/-- A block that is stored into: its fourth cell. -/
theorem set3 {w : World} {g : Nat} {a b c d : Value} {t : TypeId} (h : w.heap[g]? = some (.cells #[a, b, c, d] t (0, 0))) (d' : Value) : (w.setCell ⟨g, 3, none⟩ d').heap[g]? = some (.cells #[a, b, c, d'] t (0, 0)) := by
  have hlt := lt_of_block h
  have h' : w.heap[g] = .cells #[a, b, c, d] t (0, 0) := by simpa [Array.getElem?_eq_getElem hlt] using h
  show (w.heap.modify g _)[g]? = _
  rw [Array.getElem?_eq_getElem (by simpa using hlt), Array.getElem_modify_self, h']
  rfl
theorem set_else {w : World} {g j o : Nat} {d' : Value} (h : j ≠ g) : (w.setCell ⟨g, o, none⟩ d').heap[j]? = w.heap[j]? := Below.heap_setCell w ⟨g, o, none⟩ d' j (fun e => h e)

/-- One round of the loop, plainly. -/
theorem cls_step {cs : List Nat} {k j n lo : Nat} {c : Nat} (hc : cs[k]? = some c) (h93 : c ≠ 93) (he : elemR (cs.drop k) = some (lo, cs.drop j)) :
    clsR (cs.drop k) n = if (cs.drop j).head? = some 45 then (if closesR (cs.drop (j + 1)) then .bad false else match elemR (cs.drop (j + 1)) with | none => .bad true | some (hi, q2) => (clsR q2 (n + 1)).push (lo, hi)) else (clsR (cs.drop j) (n + 1)).push (lo, lo) := by
  have ht : (cs.drop j).tail = cs.drop (j + 1) := by rw [List.tail_drop]
  rw [drop_cons hc] at he ⊢
  rw [clsR_cons, if_neg h93, he, ← ht]
  rfl

theorem classR_sign (p : List Nat) : classR p = if p.head? = some 94 then (true, if closesR p.tail then .bad false else clsR p.tail 0) else (false, clsR p 0) := rfl

theorem head_drop {cs : List Nat} {i : Nat} : (cs.drop i).head? = cs[i]? := by rw [List.head?_drop]

set_option maxRecDepth 100000 in
set_option maxHeartbeats 4000000 in
theorem class_call (a : Option Addr) (len cap i : Nat) (cs : List Nat) (w : World) (h : RunesAt w a len cap cs) (hl : len ≤ 1000000000) (hi : i ≤ len) :
    Calls Tryd.prog 28 #[.slice a len cap, .int .i64 (i : Nat)] w (ClassPost cs i w) := by
  obtain ⟨i0, hi0, hz0, hz1, hz2⟩ := info_parts infoR
  obtain rfl : len = cs.length := h.1.symm
  have HA := Lib.hid h
  clear h
  go_enter Tryd.func28, Tryd.ntmps28
  go_upto_region 2 with (fail)
  go_cut [24] (fun v wx => v = .bool (decide ((cs.drop i).head? = some 94)) ∧ wx = (w.alloc (.cells #[.int .i64 0, .int .i32 0, .bool false, .slice none 0 0] 33)).alloc (.cells #[.int .i64 2, .int .i32 0, .bool false, .slice none 0 0] 33))
  case first =>
    by_cases h1 : i < cs.length
    · have hb2 : Below w.heap.size w ((w.alloc (.cells #[.int .i64 0, .int .i32 0, .bool false, .slice none 0 0] 33)).alloc (.cells #[.int .i64 2, .int .i32 0, .bool false, .slice none 0 0] 33)) := ((Below.refl _ w).alloc (Nat.le_refl _) _).alloc (by simp) _
      obtain ⟨c, g, o, hc, rfl, hg, c1⟩ := (HA.out.below hb2).get h1
      clear hb2
      have hh : (cs.drop i).head? = some c := by rw [head_drop]; exact hc
      by_cases c94 : c = 94
      · subst c94
        have HH := Lib.hid hh
        clear hh hc
        go_wp2
        go_meet
        exact ⟨by rw [HH.out]; rfl, rfl⟩
      · have b94 : (((c : Nat) : Int) == 94) = false := by simp; omega
        have HH : Hid ((cs.drop i).head? ≠ some 94) := Lib.hid (by rw [hh]; simpa using c94)
        clear hh hc c94
        go_wp2
        go_meet
        exact ⟨by rw [decide_eq_false HH.out], rfl⟩
    · have HH : Hid ((cs.drop i).head? ≠ some 94) := Lib.hid (by rw [List.drop_eq_nil_of_le (by omega)]; simp)
      go_wp2
      go_meet
      exact ⟨by rw [decide_eq_false HH.out], rfl⟩
  case rest =>
    obtain ⟨rfl, rfl⟩ := hcut
    generalize hS : decide ((cs.drop i).head? = some 94) = SG
    have HS := Lib.hid hS
    clear hS
    go_upto_if 24 with (fail)
    go_cut [1] (fun ix wx => ∃ (N : Bool) (i1 : Nat), ix = .int .i64 (i1 : Nat) ∧ i ≤ i1 ∧ i1 ≤ cs.length ∧ wx = (w.alloc (.cells #[.int .i64 0, .int .i32 0, .bool false, .slice none 0 0] 33)).alloc (.cells #[.int .i64 2, .int .i32 0, .bool N, .slice none 0 0] 33) ∧ classR (cs.drop i) = (N, clsR (cs.drop i1) 0))
    case first =>
      cases SG with
      | false =>
        have HC : Hid (classR (cs.drop i) = (false, clsR (cs.drop i) 0)) := Lib.hid (by rw [classR_sign, if_neg (of_decide_eq_false HS.out)])
        clear HS
        go_wp2
        go_meet
        exact ⟨false, i, rfl, Nat.le_refl _, hi, rfl, HC.out⟩
      | true =>
        have h94 : (cs.drop i).head? = some 94 := of_decide_eq_true HS.out
        have h1 : i < cs.length := by
          rw [head_drop] at h94
          exact (List.getElem?_eq_some_iff.1 h94).1
        have HC : Hid (classR (cs.drop i) = (true, if closesR (cs.drop (i + 1)) then .bad false else clsR (cs.drop (i + 1)) 0)) := Lib.hid (by rw [classR_sign, if_pos h94, List.tail_drop])
        clear HS h94
        have hb2 : Hid (Below w.heap.size w ((w.alloc (.cells #[.int .i64 0, .int .i32 0, .bool false, .slice none 0 0] 33)).alloc (.cells #[.int .i64 2, .int .i32 0, .bool true, .slice none 0 0] 33))) := Lib.hid (((Below.refl _ w).alloc (Nat.le_refl _) _).alloc (by simp) _)
        have hcall := Lib.hid (closes_call a cs.length cap (i + 1) cs _ (HA.out.below hb2.out) (by omega) (by omega))
        go_wp2_with fail
        refine hcall.out.mono ?_
        rintro e w' ⟨rfl, rfl⟩
        generalize hB : closesR (cs.drop (i + 1)) = CB
        rw [hB] at HC
        clear hcall hB
        cases CB with
        | true =>
          go_wp2
          refine bodyPost_ret (v := .tuple #[.agg #[.int .i64 2, .int .i32 0, .bool true, .slice none 0 0], .int .i64 ((i : Nat) + 1), .bool false, .bool false]) (by simp [results, Tryd.results28, go_sem]) rfl ?_
          exact ⟨((Below.refl _ w).alloc (Nat.le_refl _) _).alloc (by simp) _, .inl ⟨false, true, none, 0, 0, i + 1, by rw [HC.out]; rfl, rfl⟩⟩
        | false =>
          go_wp2
          go_meet
          exact ⟨true, i + 1, by go_num, by omega, by omega, rfl, HC.out⟩
    case rest =>
      clear HS
      obtain ⟨N, i1, rfl, hi1, hi2, rfl, hcr⟩ := hcut
      have HC := Lib.hid hcr
      clear hcr
      go_wp2
      go_loopw [1] (fun ix wr => ClassRel cs i1 N w ix wr) (fun ix _ => cs.length - (intOf ix).toNat)
      case atStart =>
        refine ⟨i1, [], .slice none 0 0, rfl, Nat.le_refl _, hi2, by simp, ?_, ?_, ?_, ?_, ?_⟩
        · have := heap_alloc_new (w.alloc (.cells #[.int .i64 0, .int .i32 0, .bool false, .slice none 0 0] 33)) (.cells #[.int .i64 2, .int .i32 0, .bool N, .slice none 0 0] 33)
          rwa [show (w.alloc (.cells #[.int .i64 0, .int .i32 0, .bool false, .slice none 0 0] 33)).heap.size = w.heap.size + 1 by simp] at this
        · rw [(World.grownBy_alloc (w.alloc (.cells #[.int .i64 0, .int .i32 0, .bool false, .slice none 0 0] 33)) (.cells #[.int .i64 2, .int .i32 0, .bool N, .slice none 0 0] 33) none).block w.heap.size (by simp) (by simp)]
          exact heap_alloc_new w _
        · exact World.ownsRow_nil _ _ _ _
        · exact (CR.pre_nil _).symm
        · exact ((Below.refl _ w).alloc (Nat.le_refl _) _).alloc (by simp) _
      case round =>
        obtain ⟨k, rs, rv, rfl, hk1, hk2, hrk, hb8, hb4, hown, hcls, hbel⟩ := hrel
        have HO := Lib.hid hown
        have HQ := Lib.hid hcls
        have HBel := Lib.hid hbel
        have HB8 := Lib.hid hb8
        have HB4 := Lib.hid hb4
        obtain ⟨va, vc, hrv⟩ := hown.form
        rw [zr_len] at hrv
        subst hrv
        have hs8 := lt_of_block hb8
        have HRA := Lib.hid (HA.out.below hbel)
        have hne : Hid (∀ q, (Value.slice va rs.length vc).ownBlock = some q → w.heap.size + 2 ≤ q ∧ q < wr.heap.size) := Lib.hid (fun q hq => hown.lt q hq)
        obtain ⟨c80, c81, c82, c83, f80, f81, f82, f83⟩ := blk4 hb8
        obtain ⟨c40, c41, c42, c43, f40, f41, f42, f43⟩ := blk4 hb4
        clear hown hcls hbel hb8 hb4
        -- how it ends badly
        have hbad : ∀ (s : Bool) (y : Nat), clsR (cs.drop k) rs.length = .bad s → ClassPost cs i w (.returned (.tuple #[.agg #[.int .i64 2, .int .i32 0, .bool N, .slice va rs.length vc], .int .i64 (y : Nat), .bool false, .bool s])) ((((wr.setCell ⟨w.heap.size, 0, none⟩ (.int .i64 2)).setCell ⟨w.heap.size, 1, none⟩ (.int .i32 0)).setCell ⟨w.heap.size, 2, none⟩ (.bool N)).setCell ⟨w.heap.size, 3, none⟩ (.slice va rs.length vc)) := by
          intro s y hs
          refine ⟨?_, .inl ⟨s, N, va, rs.length, vc, y, ?_, rfl⟩⟩
          · exact HBel.out.grown (set4_grown wr w.heap.size _ _ _ _) HBel.out.size (fun j e => by injection e with e; omega)
          · rw [HC.out]
            show clsR (cs.drop i1) 0 = _
            rw [HQ.out, hs]
            rfl
        have HBAD := Lib.hid hbad
        clear hbad
        by_cases hkl : k < cs.length
        · obtain ⟨c, g, o, hck, rfl, hg, c1⟩ := HRA.out.get hkl
          by_cases c93 : c = 93
          · subst c93
            have HD : Hid (clsR (cs.drop k) rs.length = if 0 < rs.length then .good [] (cs.drop (k + 1)) else .bad true) := Lib.hid (by rw [drop_cons hck, clsR_cons, if_pos rfl])
            clear hck
            by_cases hn : 0 < rs.length
            · have hn' : ((0 : Int) < (rs.length : Int)) := by omega
              have HG : Hid (ClassPost cs i w (.returned (.tuple #[.agg #[.int .i64 2, .int .i32 0, .bool N, .slice va rs.length vc], .int .i64 ((k + 1 : Nat) : Int), .bool true, .bool true])) ((((wr.setCell ⟨w.heap.size, 0, none⟩ (.int .i64 2)).setCell ⟨w.heap.size, 1, none⟩ (.int .i32 0)).setCell ⟨w.heap.size, 2, none⟩ (.bool N)).setCell ⟨w.heap.size, 3, none⟩ (.slice va rs.length vc))) := by
                apply Lib.hid
                refine ⟨?_, .inr ⟨rs, k + 1, va, rs.length, vc, ?_, by omega, by omega, by omega, ?_, ?_, ?_⟩⟩
                · exact HBel.out.grown (set4_grown wr w.heap.size _ _ _ _) HBel.out.size (fun j e => by injection e with e; omega)
                · rw [HC.out]
                  show clsR (cs.drop i1) 0 = _
                  rw [HQ.out, HD.out, if_pos hn]
                  show CR.good (rs ++ []) _ = _
                  rw [List.append_nil]
                · rw [HC.out]
                · exact HO.out.at.grown (set4_grown wr w.heap.size _ _ _ _) (fun q hq e => by injection e with e; have := (hne.out q hq).1; omega)
                · intro q hq
                  have h1 := hne.out q hq
                  have h2 := (set4_grown wr w.heap.size (.int .i64 2) (.int .i32 0) (.bool N) (.slice va rs.length vc)).size
                  exact ⟨by omega, by omega⟩
              clear HD HBAD HC HO HQ HBel HB8 HB4 HA HRA
              go_wp2_with fail
              go_region
              all_goals (try go_wp2)
              all_goals
                refine bodyPost_ret (v := .tuple #[.agg #[.int .i64 2, .int .i32 0, .bool N, .slice va rs.length vc], .int .i64 ((k + 1 : Nat) : Int), .bool true, .bool true]) (by simp [results, Tryd.results28, go_sem, c40, c41, c42, c43]) rfl ?_
                exact HG.out.drew
            · have hn' : decide ((0 : Int) < (rs.length : Int)) = false := decide_eq_false (by omega)
              have hn2 : decide (0 < rs.length) = false := decide_eq_false hn
              have HG := Lib.hid (HBAD.out true (k + 1) (by rw [HD.out, if_neg hn]))
              clear HD HBAD HC HO HQ HBel HB8 HB4 HA HRA
              go_wp2_with fail
              go_region
              all_goals (try go_wp2)
              all_goals
                refine bodyPost_ret (v := .tuple #[.agg #[.int .i64 2, .int .i32 0, .bool N, .slice va rs.length vc], .int .i64 ((k + 1 : Nat) : Int), .bool false, .bool true]) (by simp [results, Tryd.results28, go_sem, c40, c41, c42, c43]) rfl ?_
                exact HG.out.drew
          · have b93 : (((c : Nat) : Int) != 93) = true := by simp; omega
            have hcall := Lib.hid (element_call (some ⟨g, o, none⟩) cs.length cap k cs wr HRA.out (by omega) (by omega))
            have HCK := Lib.hid hck
            clear hck
            go_wp2_with fail
            refine hcall.out.mono ?_
            rintro e w' ⟨rfl, ⟨hel, y, rfl⟩ | ⟨lo, j, hel, hkj, hjl, rfl⟩⟩
            · have HG := Lib.hid (HBAD.out true y (by rw [drop_cons HCK.out] at hel ⊢; rw [clsR_cons, if_neg c93, hel]))
              clear HBAD HC HO HQ HBel HB8 HB4 HA HRA hel hcall HCK
              go_wp2
              refine bodyPost_ret (v := .tuple #[.agg #[.int .i64 2, .int .i32 0, .bool N, .slice va rs.length vc], .int .i64 (y : Nat), .bool false, .bool true]) (by simp [results, Tryd.results28, go_sem, c40, c41, c42, c43]) rfl ?_
              exact HG.out
            · have HST := Lib.hid (cls_step (n := rs.length) HCK.out c93 hel)
              clear hcall hel
              go_upto_region 12 with (fail)
              go_cut [66] (fun v wx => v = .bool (decide ((cs.drop j).head? = some 45)) ∧ wr = wx)
              case first =>
                clear HBAD HC HO HQ HBel HB8 HB4 HA HST HCK
                by_cases hj : j < cs.length
                · obtain ⟨d, g', o', hd, e', hg', c2⟩ := HRA.out.get hj
                  injection e' with e'
                  injection e' with e1 e2
                  subst e1
                  subst e2
                  have hh : (cs.drop j).head? = some d := by rw [head_drop]; exact hd
                  by_cases d45 : d = 45
                  · subst d45
                    have HH := Lib.hid hh
                    clear hh hd
                    go_wp2
                    go_meet
                    exact ⟨by rw [HH.out]; rfl, rfl⟩
                  · have b45 : (((d : Nat) : Int) == 45) = false := by simp; omega
                    have HH : Hid ((cs.drop j).head? ≠ some 45) := Lib.hid (by rw [hh]; simpa using d45)
                    clear hh hd d45
                    go_wp2
                    go_meet
                    exact ⟨by rw [decide_eq_false HH.out], rfl⟩
                · have HH : Hid ((cs.drop j).head? ≠ some 45) := Lib.hid (by rw [List.drop_eq_nil_of_le (by omega)]; simp)
                  go_wp2
                  go_meet
                  exact ⟨by rw [decide_eq_false HH.out], rfl⟩
              case rest =>
                obtain ⟨rfl, rfl⟩ := hcut
                generalize hS : decide ((cs.drop j).head? = some 45) = SG
                have HS := Lib.hid hS
                clear hS
                go_upto_if 66 with (fail)
                go_cut [10, 12] (fun nx hx wx => ∃ (hi j2 : Nat), nx = .int .i64 (j2 : Nat) ∧ hx = .int .i32 (hi : Nat) ∧ k < j2 ∧ j2 ≤ cs.length ∧ clsR (cs.drop k) rs.length = (clsR (cs.drop j2) (rs.length + 1)).push (lo, hi) ∧ wr = wx)
                case first =>
                  cases SG with
                  | false =>
                    have HX : Hid (clsR (cs.drop k) rs.length = (clsR (cs.drop j) (rs.length + 1)).push (lo, lo)) := Lib.hid (by rw [HST.out, if_neg (of_decide_eq_false HS.out)])
                    clear HBAD HC HO HQ HBel HB8 HB4 HA HST HCK HS HRA
                    go_wp2
                    go_meet
                    exact ⟨lo, j, rfl, rfl, hkj, hjl, HX.out, rfl⟩
                  | true =>
                    have h45 := of_decide_eq_true HS.out
                    have hj : j < cs.length := by
                      rw [head_drop] at h45
                      exact (List.getElem?_eq_some_iff.1 h45).1
                    have HX : Hid (clsR (cs.drop k) rs.length = (if closesR (cs.drop (j + 1)) then .bad false else match elemR (cs.drop (j + 1)) with | none => .bad true | some (hi, q2) => (clsR q2 (rs.length + 1)).push (lo, hi))) := Lib.hid (by rw [HST.out, if_pos h45])
                    have hcall := Lib.hid (closes_call (some ⟨g, o, none⟩) cs.length cap (j + 1) cs wr HRA.out (by omega) (by omega))
                    have hcall2 := Lib.hid (element_call (some ⟨g, o, none⟩) cs.length cap (j + 1) cs wr HRA.out (by omega) (by omega))
                    clear HS HST HCK h45
                    go_wp2_with fail
                    refine hcall.out.mono ?_
                    rintro e w' ⟨rfl, rfl⟩
                    generalize hB : closesR (cs.drop (j + 1)) = CB
                    rw [hB] at HX
                    clear hcall hB
                    cases CB with
                    | true =>
                      have HG := Lib.hid (HBAD.out false j (by rw [HX.out]; rfl))
                      clear HBAD HC HO HQ HBel HB8 HB4 HA HRA HX hcall2
                      go_wp2
                      refine bodyPost_ret (v := .tuple #[.agg #[.int .i64 2, .int .i32 0, .bool N, .slice va rs.length vc], .int .i64 (j : Nat), .bool false, .bool false]) (by simp [results, Tryd.results28, go_sem, c40, c41, c42, c43]) rfl ?_
                      exact HG.out
                    | false =>
                      go_wp2_with fail
                      refine hcall2.out.mono ?_
                      rintro e w' ⟨rfl, ⟨hel, y, rfl⟩ | ⟨hi', j2, hel, hkj2, hjl2, rfl⟩⟩
                      · have HG := Lib.hid (HBAD.out true y (by rw [HX.out, hel]; rfl))
                        clear HBAD HC HO HQ HBel HB8 HB4 HA HRA HX hcall2 hel
                        go_wp2
                        refine bodyPost_ret (v := .tuple #[.agg #[.int .i64 2, .int .i32 0, .bool N, .slice va rs.length vc], .int .i64 (y : Nat), .bool false, .bool true]) (by simp [results, Tryd.results28, go_sem, c40, c41, c42, c43]) rfl ?_
                        exact HG.out
                      · have HY : Hid (clsR (cs.drop k) rs.length = (clsR (cs.drop j2) (rs.length + 1)).push (lo, hi')) := Lib.hid (by rw [HX.out, hel]; rfl)
                        clear HBAD HC HO HQ HBel HB8 HB4 HA HRA HX hcall2 hel
                        go_wp2
                        go_meet
                        exact ⟨hi', j2, rfl, rfl, by omega, hjl2, HY.out, rfl⟩
                case rest =>
                  obtain ⟨hi', j2, rfl, rfl, hkj2, hjl2, hcl2, rfl⟩ := hcut
                  have HX := Lib.hid hcl2
                  clear hcl2 HS HST HCK HRA HA HBAD HC
                  have e2 : rcells (zr rs ++ [((lo : Int), (hi' : Int))]) = rcells (zr rs) ++ [.int .i32 (lo : Nat), .int .i32 (hi' : Nat)] := by simp [rcells]
                  have HE2 := Lib.hid e2
                  clear e2
                  go_wp2_with (at_builtin; refine wpList_append_own _ rfl _ _ 31 rfl (w.heap.size + 2) 63 i0 (.agg #[.int .i32 0, .int .i32 0]) 2 8 Tryd.underlying31 hi0 hz0 hz1 hz2 rfl (by decide) _ _ _ rfl (HO.out.alloc _) ⟨wr.heap.size, 0, none⟩ 1 1 [.int .i32 (lo : Nat), .int .i32 (hi' : Nat)] rfl rfl ?c1 ?c2 ?c3 ?c4 ?c5 ?_)
                  case c1 => exact cell_two_new _ _ _ _
                  case c2 => exact two_one _ _
                  case c3 => rw [zr_len]; unfold maxLen; omega
                  case c4 => rw [zr_len]; omega
                  case c5 => simp; omega
                  · intro v' w4 hown' hgrow hnn
                    have hG1 : wr.grownBy w4 (Value.slice va rs.length vc).ownBlock := ⟨hgrow.os, hgrow.tape, hgrow.output, by have := hgrow.size; simp at this; omega, fun q hq hqn => (hgrow.block q (by simp; omega) hqn).trans ((World.grownBy_alloc wr _ none).block q hq (by simp))⟩
                    have hnb : ∀ q, q < w.heap.size + 2 → some q ≠ (Value.slice va rs.length vc).ownBlock := fun q hq e => by have := (hne.out q e.symm).1; omega
                    have hb8' := (hG1.block (w.heap.size + 1) hs8 (hnb _ (by omega))).trans HB8.out
                    have hb4' := (hG1.block w.heap.size (by omega) (hnb _ (by omega))).trans HB4.out
                    have HOW : Hid (OwnR (w.heap.size + 2) w4 v' (zr (rs ++ [(lo, hi')]))) := by
                      apply Lib.hid
                      unfold OwnR
                      rw [zr_snoc, HE2.out, List.length_append]
                      exact hown'
                    have hfm := HOW.out.form
                    have HBE : Hid (Below w.heap.size w w4) := Lib.hid (HBel.out.grown hG1 HBel.out.size (fun q e => by have := (hne.out q e).1; omega))
                    have HB8' := Lib.hid hb8'
                    have HB4' := Lib.hid hb4'
                    obtain ⟨d80, d81, d82, d83, g80, g81, g82, g83⟩ := blk4 hb8'
                    have hw4 : wr.heap.size ≤ w4.heap.size := hG1.size
                    obtain ⟨va', vc', hfv⟩ := hfm
                    subst hfv
                    clear hown' hgrow hnn hG1 hnb hb8' hb4' HO HB8 HB4 HBel hne HE2 c80 c81 c82 c83 f80 f81 f82 f83 c40 c41 c42 c43 f40 f41 f42 f43
                    go_wp2
                    go_roundw
                    case rel =>
                      refine ⟨j2, rs ++ [(lo, hi')], _, rfl, by omega, hjl2, by simp; omega, set3 HB8'.out _, ?_, ?_, ?_, ?_⟩
                      · rw [set_else (by omega)]
                        exact HB4'.out
                      · exact ownsRow_setCell_below HOW.out (by show w.heap.size + 1 < w.heap.size + 2; omega) _
                      · rw [HQ.out, HX.out, CR.pre_push, List.length_append]
                        rfl
                      · exact HBE.out.setCell (by show w.heap.size ≤ w.heap.size + 1; omega) _
                    case measure => simp [intOf]; omega
        · have hk' : decide ((k : Int) < (cs.length : Int)) = false := decide_eq_false (by omega)
          have HG := Lib.hid (HBAD.out true (k + 1) (by rw [List.drop_eq_nil_of_le (by omega)]; rfl))
          clear HBAD HC HO HQ HBel HB8 HB4 HA HRA
          go_wp2_with fail
          go_region
          all_goals (try go_wp2)
          all_goals
            refine bodyPost_ret (v := .tuple #[.agg #[.int .i64 2, .int .i32 0, .bool N, .slice va rs.length vc], .int .i64 ((k + 1 : Nat) : Int), .bool false, .bool true]) (by simp [results, Tryd.results28, go_sem, c40, c41, c42, c43]) rfl ?_
            exact HG.out.drew

end Go.Proofs.YtcoaoheakeodoaaDoor

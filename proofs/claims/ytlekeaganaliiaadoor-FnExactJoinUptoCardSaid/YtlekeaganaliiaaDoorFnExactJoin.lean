/-
  Join equals the reference for all elements whose bulk is at most 1048576: the law returns true and leaves the elements as they were. Conditions: the second form's bound.
  The frame round the walk is the kit's own.
-/
import Derived.Test.YtlekeaganaliiaaDoorRows
import Derived.Test.YtlekeaganaliiaaDoorSpecP
import Derived.Test.YtlekeaganaliiaaDoorJoinC
import Derived.Test.YtlekeaganaliiaaDoorTie
import Derived.Test.YtlekeaganaliiaaDoorCards
import Derived.Test.YtlekeaganaliiaaDoorLaid
import Derived.LaidMore
import Derived.Lay
import Derived.SevenTiedAt
import Derived.Stop.Joined
import Derived.Deep.DeepHandedRow
import Derived.Deep.DeepWitnessRowRef
import Derived.OpenShut
import Derived.Deep.Strs
namespace Go.Proofs.YtlekeaganaliiaaDoor.fnExactJoin
open Go.ChangeShapes Go.WideShapes Go.ChangeAt Go.RowKit
open Go.ChangeMaps (open_string shut_string)
set_option linter.unusedVariables false

def RowAny (w : World) (v : Value) (xs : PL) : Prop := (v = .slice none 0 0 ∧ xs = []) ∨ ∃ (x : Addr) (cap : Nat), v = .slice (some x) xs.length cap ∧ xs.length ≤ cap ∧ cap ≤ maxLen ∧ ∀ (j : Nat) s, xs[j]? = some s → w.cell? (x.add j) = some (S s)
theorem RowAny.kept {w w' : World} {v : Value} {xs : PL} (h : RowAny w v xs) (hb : Below w.heap.size w w') : RowAny w' v xs := by
  rcases h with h | ⟨x, cap, e, h1, h2, h3⟩
  · exact .inl h
  · exact .inr ⟨x, cap, e, h1, h2, fun j s hj => (hb.cell (World.block_lt_of_cell? _ _ (h3 j s hj))).trans (h3 j s hj)⟩
def neJ (x : List UInt8) : Bool := decide (x ≠ [])
open Go.Lib.Pa in
theorem join_neJ (xs : PL) : join xs = if xs.filter neJ = [] then [] else clean (J (xs.filter neJ)) := rfl

set_option maxRecDepth 20000 in
set_option maxHeartbeats 1000000 in
theorem specJoin (v : Value) (xs : PL) (w : World) (hM : MaxAt w) (hR : RowAny w v xs) (h : Lib.Pa.lens xs + xs.length ≤ 10000000) :
    Calls Tryd.prog 33 #[v] w fun e w' => e = .returned (S (Lib.Pa.join xs)) ∧ Below w.heap.size w w' := by
  obtain ⟨i0, hi, hz0, hz1, hz2⟩ := info_parts infoStr
  have HM := Lib.hid hM
  have HB2 : Hid (Below w.heap.size w (w.alloc (.cells #[] 9))) := Lib.hid ((Below.refl _ w).alloc (Nat.le_refl _) _)
  have HO2 : Hid (Lists w.heap.size (w.alloc (.cells #[] 9)) (.slice (some ⟨w.heap.size, 0, none⟩) 0 0) []) := Lib.hid (Lists.made w w.heap.size w.heap.size rfl (Nat.le_refl _) [] (by simp))
  rcases hR with ⟨rfl, rfl⟩ | ⟨x, cap, rfl, hcap, hcm, hcells⟩
  · rw [show Lib.Pa.join [] = [] from rfl]
    clear hM HM h
    go_enter Tryd.func33, Tryd.ntmps33
    go_wp2
    go_loopw [3, 9] (fun o i wr => o = .slice (some ⟨w.heap.size, 0, none⟩) 0 0 ∧ i = .int .i64 0 ∧ wr = w.alloc (.cells #[] 9)) (fun _ _ _ => 0)
    case atStart => exact ⟨rfl, rfl, rfl⟩
    case round =>
      obtain ⟨rfl, rfl, hwr⟩ := hrel
      have HBR : Hid (Below w.heap.size w wr) := Lib.hid (by rw [hwr]; exact HB2.out)
      clear hwr HO2
      go_wp2
      go_ret
      exact ⟨rfl, HBR.out⟩
  · obtain ⟨C, hC⟩ : ∃ C, C = Lib.Pa.join xs := ⟨_, rfl⟩
    have hj := join_neJ xs
    have hyl : Lib.Pa.lens (xs.filter neJ) + (xs.filter neJ).length ≤ Lib.Pa.lens xs + xs.length := by
      have h1 := lens_filter neJ xs
      have h2 := List.length_filter_le neJ xs
      omega
    have hJl := J_len (xs.filter neJ)
    rw [← hC] at hj ⊢
    have HJ := Lib.hid hj
    have HC := Lib.hid hcells
    clear hj hC hM hcells
    unfold maxLen at hcm
    go_enter Tryd.func33, Tryd.ntmps33
    go_wp2
    go_loopw [3, 9] (fun o i wr => FilRel neJ xs w.heap.size (w.alloc (.cells #[] 9)) o i wr) (fun _ i _ => xs.length - (intOf i).toNat)
    case atStart => exact ⟨0, rfl, Nat.zero_le _, HO2.out, fun j e => .inl (Option.some.inj (show some w.heap.size = some j from e)).symm, World.grownBy.refl _ _⟩
    case round =>
      clear HO2
      obtain ⟨k, rfl, hk, hO, hW, hG⟩ := hrel
      have HO := Lib.hid hO
      have HW := Lib.hid hW
      have HG := Lib.hid hG
      have hgs := hG.size
      simp at hgs
      clear hO hW hG
      by_cases hkl : k < xs.length
      · obtain ⟨y, hy⟩ : ∃ y, xs[k]? = some y := ⟨_, List.getElem?_eq_getElem hkl⟩
        have hc0 := HC.out k y hy
        have hlt := World.block_lt_of_cell? _ _ hc0
        have hcx : wr.cell? (x.add k) = some (S y) := HG.out.cell ((World.cell?_alloc_lt _ _ _ hlt).trans hc0) (by intro e; have := Option.some.inj e; omega)
        have HT := Lib.hid (take_filter neJ hy)
        clear hy hc0 hlt
        cases y with
        | nil =>
          have HT2 : Hid ((xs.take (k + 1)).filter neJ = (xs.take k).filter neJ) := Lib.hid (by rw [HT.out, if_neg (by decide), List.append_nil])
          clear HT
          go_wp2
          go_roundw
          case rel => exact ⟨k + 1, by go_num, by omega, by rw [HT2.out]; exact HO.out, HW.out, HG.out⟩
          case measure => simp [intOf]; omega
        | cons c t =>
          have HT2 : Hid ((xs.take (k + 1)).filter neJ = (xs.take k).filter neJ ++ [c :: t]) := Lib.hid (by rw [HT.out, if_pos (by simp [neJ])])
          have hlf := List.length_filter_le neJ (xs.take k)
          have hlt2 := List.length_take_le k xs
          clear HT
          obtain ⟨ys, hys⟩ : ∃ ys, (xs.take k).filter neJ = ys := ⟨_, rfl⟩
          rw [hys] at HO HT2 hlf
          clear hys
          go_wp2_with (at_builtin; refine wpList_append_lies _ rfl _ _ 36 rfl w.heap.size 9 i0 (.string ByteArray.empty) 1 16 Tryd.underlying36 hi hz0 hz1 hz2 rfl (by decide) _ _ _ rfl (HO.out.own.alloc _) ⟨wr.heap.size, 0, none⟩ 1 1 [S (c :: t)] rfl rfl ?c1 ?c2 (by decide) ?c3 ?c4 ?c5 _ rfl ?_)
          case c1 => exact one_cells _ _ _
          case c2 => exact all_one [c :: t]
          case c3 => unfold maxLen; omega
          case c4 => omega
          case c5 => simp; omega
          · intro g cap4 w4 hown hgrow hat hlt4
            have HO4 : Hid (Lists w.heap.size w4 (.slice (some ⟨g, 0, none⟩) (ys.length + 1) cap4) (ys ++ [c :: t])) := Lib.hid (Lists.of hown (by simp) (by simp) (by simp))
            have HW4 : Hid (∀ j, (Value.slice (some ⟨g, 0, none⟩) (ys.length + 1) cap4).ownBlock = some j → j = w.heap.size ∨ (w.alloc (.cells #[] 9)).heap.size ≤ j) := Lib.hid (fun j e => by
              have e' : g = j := Option.some.inj e
              subst e'
              rcases hat with h | h
              · exact HW.out g h
              · right; simp at h ⊢; omega)
            have HG4 : Hid ((w.alloc (.cells #[] 9)).grownBy w4 (some w.heap.size)) := Lib.hid (grown_row (grown_row HG.out (World.grownBy_alloc wr (.cells #[S (c :: t)] 9) none) (fun j e => by cases e)) hgrow HW.out)
            clear hown hgrow hat hlt4 HO HW HG hcx
            go_wp2
            go_roundw
            case rel => exact ⟨k + 1, by go_num, by omega, by rw [HT2.out]; exact HO4.out, HW4.out, HG4.out⟩
            case measure => simp [intOf]; omega
      · obtain rfl : k = xs.length := by omega
        have hO2 : Lists w.heap.size wr u3 (xs.filter neJ) := by have := HO.out; rw [List.take_length] at this; exact this
        have HBF : Hid (Below w.heap.size w wr) := Lib.hid (HB2.out.grown HG.out (by simp) (fun j e => by injection e with e; omega))
        have HMW := Lib.hid (HM.out.on HBF.out)
        obtain ⟨g, cap4, rfl, _, hg, hcap4, _, hcc⟩ := hO2.shape
        have HCC := Lib.hid hcc
        generalize xs.filter neJ = ys at *
        clear HO HW HG hO2 hcc HM HC
        by_cases hy : ys = []
        · subst hy
          have HA0 : Hid (C = []) := Lib.hid (by rw [HJ.out, if_pos rfl])
          clear HJ
          go_wp2
          go_ret
          exact ⟨by rw [HA0.out]; rfl, HBF.out⟩
        · have HA1 : Hid (Lib.Pa.clean (J ys) = C) := Lib.hid (by rw [HJ.out, if_neg hy])
          have hyp : 0 < ys.length := List.length_pos_iff.2 hy
          have hyn : ¬ ys.length = 0 := by omega
          have hyi : ((ys.length : Int) == 0) = false := by simp; omega
          clear HJ hy
          go_wp2_with fail
          refine (joinC g 0 cap4 ys _ (fun j z hj => by rw [Nat.zero_add]; exact HCC.out j z hj) hg hcap4 (by omega) (by omega)).mono ?_
          rintro e w5 ⟨rfl, hb⟩
          have HB5 := Lib.hid (HBF.out.trans (hb.mono HBF.out.size))
          have HM5 := Lib.hid (HMW.out.on hb)
          clear hb HBF HMW HCC
          go_wp2_with fail
          refine (specClean (J ys) _ HM5.out (by omega)).mono ?_
          rintro e w6 ⟨rfl, hb⟩
          have HB6 := Lib.hid (HB5.out.trans (hb.mono HB5.out.size))
          clear hb HB5 HM5
          rw [HA1.out]
          go_wp2
          go_ret
          exact ⟨rfl, HB6.out⟩

set_option maxRecDepth 20000 in
set_option maxHeartbeats 1000000 in
theorem walk (v : Value) (xs : PL) (w : World) (hR : RowAny w v xs) (hl : Lib.Pa.lens xs + xs.length ≤ 1048576) (hM : MaxAt w) :
    Calls Tryd.prog 11 #[v] w fun e w' => e = .returned (.bool true) ∧ Below w.heap.size w w' := by
  obtain ⟨i0, hi, hz0, hz1, hz2⟩ := info_parts infoStr
  have HB0 : Hid (Below w.heap.size w (w.alloc (.cells #[] 9))) := Lib.hid ((Below.refl _ w).alloc (Nat.le_refl _) _)
  have HM := Lib.hid hM
  have HR := Lib.hid hR
  obtain ⟨C, hC⟩ : ∃ C, C = Lib.Pa.join xs := ⟨_, rfl⟩
  have HCE := Lib.hid hC.symm
  have hown0 : (w.alloc (.cells #[] 9)).ownsRow w.heap.size 9 1 (.slice (some ⟨w.heap.size, 0, none⟩) 0 0) 0 [] := World.ownsRow_made w #[] 0 (Nat.le_refl _) (by unfold maxLen; omega) rfl
  have HOW := Lib.hid hown0
  clear hC hM hown0
  rcases hR with ⟨rfl, rfl⟩ | ⟨x, cap, rfl, hcap, hcm, hcells⟩
  · have HL0 : Hid (Lists w.heap.size (w.alloc (.cells #[] 9)) (.slice (some ⟨w.heap.size, 0, none⟩) 0 0) []) := Lib.hid (Lists.made w w.heap.size w.heap.size rfl (Nat.le_refl _) [] (by simp))
    clear HOW
    go_enter Tryd.func11, Tryd.ntmps11
    go_wp2_with fail
    refine (joinOwn _ _ [] _ HL0.out (by simp [Lib.Pa.lens])).mono ?_
    rintro e w2 ⟨rfl, hb⟩
    have HB2 := Lib.hid (HB0.out.trans (hb.mono HB0.out.size))
    have HM2 := Lib.hid (HM.out.on HB2.out)
    rw [HCE.out]
    clear hb HB0 HM HL0
    go_wp2_with fail
    refine (specJoin _ [] _ HM2.out (HR.out.kept HB2.out) (by simp [Lib.Pa.lens])).mono ?_
    rintro e w3 ⟨rfl, hb⟩
    have HB3 := Lib.hid (HB2.out.trans (hb.mono HB2.out.size))
    rw [HCE.out]
    clear hb HB2 HM2 HR HCE
    go_wp2
    go_ret
    exact ⟨rfl, HB3.out⟩
  · have HC : Hid (∀ (j : Nat) u, (xs.map fun l => S l)[j]? = some u → (w.alloc (.cells #[] 9)).cell? (x.add j) = some u) := Lib.hid (fun j u hj => by
      rw [List.getElem?_map] at hj
      cases hq : xs[j]? with
      | none => rw [hq] at hj; cases hj
      | some z =>
        rw [hq] at hj
        have hz : u = S z := (Option.some.inj hj).symm
        rw [hz]
        have h1 := hcells j z hq
        exact (World.cell?_alloc_lt _ _ _ (World.block_lt_of_cell? _ _ h1)).trans h1)
    clear hcells
    unfold maxLen at hcm
    go_enter Tryd.func11, Tryd.ntmps11
    go_wp2_with (at_builtin; refine wpList_append_own _ rfl _ _ 36 rfl w.heap.size 9 i0 (.string ByteArray.empty) 1 16 Tryd.underlying36 hi hz0 hz1 hz2 rfl (by decide) _ 0 [] rfl HOW.out x xs.length cap (xs.map fun l => S l) rfl ?d1 ?d2 ?d3 ?d4 ?d5 ?d6 ?_)
    case d1 => simp
    case d2 => exact HC.out
    case d3 => exact all_one xs
    case d4 => unfold maxLen; omega
    case d5 => omega
    case d6 => simp
    · intro v' w2 hown' hgrow hnn
      have HL2 : Hid (Lists w.heap.size w2 v' xs) := Lib.hid (Lists.of hown' hnn (by simp) (by simp))
      have HB2 : Hid (Below w.heap.size w w2) := Lib.hid (HB0.out.grown hgrow HB0.out.size (fun j e => by have : w.heap.size = j := Option.some.inj e; omega))
      clear hown' hgrow hnn HC HB0 HOW
      go_wp2_with fail
      refine (joinOwn _ _ xs _ HL2.out (by omega)).mono ?_
      rintro e w3 ⟨rfl, hb⟩
      have HB3 := Lib.hid (HB2.out.trans (hb.mono HB2.out.size))
      have HM3 := Lib.hid (HM.out.on HB3.out)
      rw [HCE.out]
      clear hb HB2 HM HL2
      go_wp2_with fail
      refine (specJoin _ xs _ HM3.out (HR.out.kept HB3.out) (by omega)).mono ?_
      rintro e w4 ⟨rfl, hb⟩
      have HB4 := Lib.hid (HB3.out.trans (hb.mono HB3.out.size))
      rw [HCE.out]
      clear hb HB3 HM3 HR HCE
      go_wp2
      go_ret
      exact ⟨rfl, HB4.out⟩


theorem bulk_strs {H : Type} : ∀ l : PL, Rows.uptoBulkAll (H := H) (l.map fun s => .lit (.string s)) = Lib.Pa.lens l + l.length
  | [] => rfl
  | s :: l => by
    have h := bulk_strs (H := H) l
    simp only [List.map_cons, Rows.uptoBulkAll, Rows.uptoBulk, Lib.Pa.lens, List.sum_cons, List.length_cons] at h ⊢
    omega
theorem reads (os : Os) {H : Type} (enc : TypeId × Value → H) : ∃ places, DataW.whole enc Tryd.prog ((World.laidAll Tryd.prog os Rows.fnExactJoinUptoRow.laid).forCall (fun _ _ => 0) ⟨#[], #[.slice none 0 0], []⟩).memory Tryd.f11.params.toList Rows.fnExactJoinSpec.vars false #[Value.slice none 0 0].toList 8 = some ([.nil], [], places) :=
  ⟨[], by kernel_rfl⟩

set_option maxRecDepth 100000 in
theorem lifted (os : Os) (started : os.Started) (H : Type) (enc : TypeId × Value → H) (G : Stop.Interp) :
    ReturnsInHanded {} Tryd.checked os 11 .any ((Rows.OpenSpec.upto Rows.fnExactJoinSpec).preRow enc Tryd.prog Tryd.f11 Rows.fnExactJoinUptoRow.domain false Rows.fnExactJoinUptoRow.laid) (((Rows.OpenSpec.upto Rows.fnExactJoinSpec).at G).post enc Tryd.prog Tryd.f11 false true false false) := by
  obtain ⟨places, hx⟩ := reads os enc
  refine returnsInHanded_of_row (C := Tryd.checked) (s := Rows.OpenSpec.upto Rows.fnExactJoinSpec) own started (by kernel_rfl) Tryd.func11
    (witness_row_atRef (enc := enc) (C := Tryd.checked) false (World.laidAll Tryd.prog os Rows.fnExactJoinUptoRow.laid) #[.slice none 0 0] (World.laidAll_os _ _ _) (by kernel_rfl) (by kernel_rfl) (by kernel_rfl)
      (OpenSpec.preRow_of_cond 8 hx (by kernel_rfl) (fun k hk => by cases hk; kernel_rfl) (by kernel_rfl) (laidMet_laidAll _ (by kernel_rfl) (by kernel_rfl)))) ?_
  intro W base args ds gs before hval0 hW hcnd hcond hsz0 hL hsh _
  have hval : ∀ (j : Nat) t v, Tryd.f11.params[j]? = some t → args[j]? = some v → Value.okWide Tryd.prog W .any base t v := hval0
  have hk := hcond _ rfl
  have hW' := hW
  obtain ⟨p, q, hA0, hV, rfl, hfz, hnd⟩ := hW
  have hA : DataW.TrodAll enc Tryd.prog W 0 (fun _ => true) true Tryd.f11.params.toList args.toList ds p := hA0
  rw [Tryd.params11] at hA hval
  obtain ⟨v0, vs0, d0, ds0, p0, q0, hargs, rfl, rfl, h0, r0⟩ := trodAll_cons hA
  obtain ⟨rfl, rfl, rfl⟩ := trodAll_nil r0
  obtain rfl : args = #[v0] := by cases args; simp_all
  obtain ⟨rfl, rfl⟩ := trodVars_none hV
  have k0 := h0
  have lt0 : ∀ x ∈ p0, x.block < W.heap.size := by obtain ⟨m, hm⟩ := k0; exact DataW.trod_lt m _ _ _ hm
  obtain ⟨a0, len0, cap0, rfl⟩ := okWide_slice Tryd.underlying36 (hval 0 36 v0 rfl rfl)
  obtain ⟨xs, hrow, hlen⟩ : ∃ xs : PL, RowAny W (.slice a0 len0 cap0) xs ∧ Lib.Pa.lens xs + xs.length ≤ 1048576 := by
    obtain ⟨fuel, hf⟩ := h0
    rcases Go.Deep.open_strs Tryd.underlying36 Tryd.underlying9 (by kernel_rfl) hf with ⟨hcs, _⟩ | ⟨x, len, cap, m, Sx, hcs, _, hlc, hcm, hmm, hx, hcell⟩
    · simp [Value.cells] at hcs
      obtain ⟨rfl, rfl, rfl⟩ := hcs
      exact ⟨[], .inl ⟨rfl, rfl⟩, by decide⟩
    · simp [Value.cells] at hcs
      obtain ⟨rfl, rfl, rfl⟩ := hcs
      have hd : d0 = .slice ((List.range len0).map fun i => .lit (.string (Sx i).data.toList)) ((List.range (m - len0)).map fun j => .lit (.string (Sx (len0 + j)).data.toList)) := congrArg Prod.fst hx
      have hb : Rows.uptoBulkAll [d0] ≤ 1048576 := of_decide_eq_true hk
      have hlm : len0 ≤ m := by rw [hmm]; split <;> omega
      have hbs := bulk_strs (H := H) ((List.range len0).map fun i => (Sx i).data.toList)
      rw [List.map_map] at hbs
      have hbs2 : Rows.uptoBulkAll ((List.range len0).map fun i => (DataW.lit (.string (Sx i).data.toList) : DataW H)) = Lib.Pa.lens ((List.range len0).map fun i => (Sx i).data.toList) + ((List.range len0).map fun i => (Sx i).data.toList).length := hbs
      rw [hd] at hb
      simp only [Rows.uptoBulkAll, Rows.uptoBulk] at hb
      refine ⟨(List.range len0).map fun i => (Sx i).data.toList, .inr ⟨x, cap0, by simp, by simpa using hlc, hcm, fun j s hj => ?_⟩, by omega⟩
      rw [List.getElem?_map] at hj
      have hjl : j < len0 := by
        rcases Nat.lt_or_ge j len0 with h | h
        · exact h
        · rw [List.getElem?_eq_none (by simpa using h)] at hj; cases hj
      rw [List.getElem?_range hjl] at hj
      have hs : (Sx j).data.toList = s := by simpa using hj
      rw [(hcell j (by omega)).1, ← hs]
  have hM := max_of hsh
  clear hA0 hval0 hk
  refine (walk _ xs W hrow hlen hM).mono fun e W' ⟨he, bel⟩ => ?_
  subst he
  exact ⟨_, rfl, _, _, _, [], _, [], hW', trodAll_mk1 (shut_bool Tryd.underlying4 _), (trodAll_cons_mk (Below.trod laidOut (by kernel_rfl) (of_decide_eq_true (by kernel_rfl)) k0 bel lt0) trodAll_mk0), rfl, bel.frame _, fun h => by cases h⟩

theorem over : Rows.FnExactJoinUptoSaid :=
  OpenClaim.holds_of_cond 11 Tryd.f11 rfl rfl rfl rfl rfl rfl rfl ⟨rfl, rfl, rfl, rfl, rfl⟩ rfl rfl rfl rfl rfl (by kernel_rfl) Tryd.func11 (by kernel_rfl)
    (of_decide_eq_true (by kernel_rfl)) (by unfold Func.isWrapper; first | (rw [if_pos (by decide +kernel)]; kernel_rfl) | (rw [if_neg (by decide +kernel)]; exact ⟨rfl, rfl⟩))
    (fun os started H enc _ G => by rw [OpenClaim.pre_eq_preRow]; exact lifted os started H enc G)

theorem proved : Rows.FnExactJoinUptoCardSaid :=
  Claim7.holds_tied_plain_at .later [] Rows.fnExactJoinUptoCard.laidKinds true Rows.fnExactJoinUptoCard.stood.harness true over (fun _ h => by cases h) (by kernel_rfl) (fun _ h => by cases h) fnExactJoinUpto_row_tie rfl ⟨rfl, rfl⟩ (by kernel_rfl) rfl
    (fun f fn hf hfn => by
      obtain rfl : f = 11 := Option.some.inj ((show Tryd.prog.funcNamed Rows.fnExactJoinUptoRow.func = some 11 by kernel_rfl).symm.trans hf) |>.symm
      obtain rfl : fn = Tryd.f11 := (Option.some.inj (Tryd.func11.symm.trans hfn)).symm
      exact ⟨by kernel_rfl, fun j t ht => by
        rw [Tryd.params11] at ht
        have hm : t ∈ [36] := by simpa using Array.mem_of_getElem? ht
        have hall : ([36].all fun u => !Tryd.prog.wantsStandIn u) = true := by kernel_rfl
        exact (show Tryd.prog.wantsStandIn t = false by simpa using List.all_eq_true.1 hall t hm)⟩)
    (by kernel_rfl)
end Go.Proofs.YtlekeaganaliiaaDoor.fnExactJoin


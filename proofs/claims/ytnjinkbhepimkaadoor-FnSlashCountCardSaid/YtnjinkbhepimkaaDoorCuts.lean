/-
  laws.cuts: the places between the characters of a text: its contract. Conditions: none beyond those of each theorem.
-/
import Derived.Test.YtnjinkbhepimkaaDoorRunes
import Derived.Test.YtnjinkbhepimkaaDoorEnv
import Derived.Laws.OwnMore
namespace Go.Proofs.YtnjinkbhepimkaaDoor
open Go.ChangeShapes Go.WideShapes Go.ChangeAt Go.RowKit

/-- The ends of the characters of a text that begins at a place. -/
def cutsF : Nat → Nat → Bs → List Nat
  | 0, _, _ => []
  | f + 1, pos, l => if l = [] then [] else (pos + (dec l).2) :: cutsF f (pos + (dec l).2) (l.drop (dec l).2)
theorem cutsF_fuel : ∀ (f g pos : Nat) (l : Bs), l.length ≤ f → l.length ≤ g → cutsF f pos l = cutsF g pos l
  | 0, 0, _, _, _, _ => rfl
  | 0, g + 1, _, l, h, _ => by
    have : l = [] := List.length_eq_zero_iff.1 (by omega)
    subst this
    rfl
  | f + 1, 0, _, l, _, h => by
    have : l = [] := List.length_eq_zero_iff.1 (by omega)
    subst this
    rfl
  | f + 1, g + 1, pos, l, hf, hg => by
    unfold cutsF
    by_cases h0 : l = []
    · rw [if_pos h0, if_pos h0]
    · have h1 := dec_ge h0
      have h2 := List.length_pos_iff.2 h0
      rw [if_neg h0, if_neg h0, cutsF_fuel f g _ _ (by rw [List.length_drop]; omega) (by rw [List.length_drop]; omega)]
def cutsB (pos : Nat) (l : Bs) : List Nat := cutsF l.length pos l
theorem cutsB_nil (pos : Nat) : cutsB pos [] = [] := rfl
theorem cutsB_ne (pos : Nat) (l : Bs) (h : l ≠ []) : cutsB pos l = (pos + (dec l).2) :: cutsB (pos + (dec l).2) (l.drop (dec l).2) := by
  have h1 := dec_ge h
  have h2 := List.length_pos_iff.2 h
  unfold cutsB
  obtain ⟨n, hn⟩ : ∃ n, l.length = n + 1 := ⟨l.length - 1, by omega⟩
  conv => lhs; rw [hn]; unfold cutsF
  rw [if_neg h, cutsF_fuel n _ _ _ (by rw [List.length_drop]; omega) (Nat.le_refl _)]
/-- laws.cuts. -/
def cutsL (l : Bs) : List Nat := 0 :: cutsB 0 l
theorem cutsB_len : ∀ (n pos : Nat) (l : Bs), l.length ≤ n → (cutsB pos l).length = (runes l).length
  | 0, pos, l, h => by
    have : l = [] := List.length_eq_zero_iff.1 (by omega)
    subst this
    rfl
  | n + 1, pos, l, h => by
    by_cases h0 : l = []
    · subst h0; rfl
    · have h1 := dec_ge h0
      have h2 := List.length_pos_iff.2 h0
      rw [cutsB_ne pos l h0, runes_ne l h0, List.length_cons, List.length_cons, cutsB_len n _ _ (by rw [List.length_drop]; omega)]
theorem cutsL_len (l : Bs) : (cutsL l).length = (runes l).length + 1 := by
  unfold cutsL
  rw [List.length_cons, cutsB_len _ _ l (Nat.le_refl _)]

/-- Integers that are read. -/
def IntsRd (w : World) (v : Value) (cs : List Nat) : Prop := ∃ g cap, v = .slice (some ⟨g, 0, none⟩) cs.length cap ∧ cs.length ≤ cap ∧ cap ≤ maxLen ∧ g < w.heap.size ∧ ∀ (j c : Nat), cs[j]? = some c → w.cell? ⟨g, j, none⟩ = some (.int .i64 (c : Nat))
theorem IntsRd.below {w w' : World} {v : Value} {cs : List Nat} (h : IntsRd w v cs) (hb : Below w.heap.size w w') : IntsRd w' v cs := by
  obtain ⟨g, cap, e, h1, h2, h3, h4⟩ := h
  exact ⟨g, cap, e, h1, h2, Nat.lt_of_lt_of_le h3 hb.size, fun j c hj => (hb.cell (p := ⟨g, j, none⟩) h3).trans (h4 j c hj)⟩

theorem infoI : (Tryd.prog.info? 3).map (fun i => (i.zero, i.size, i.bytes)) = some (some (.int .i64 0), 1, 8) := by kernel_rfl

def CutsRel (l : Bs) (w : World) (out i : Value) (wr : World) : Prop :=
  ∃ (pos : Nat) (cs : List Nat), i = .int .i64 (pos : Nat) ∧ pos ≤ l.length ∧ cs.length ≤ pos + 1 ∧ 1 ≤ cs.length ∧ wr.ownsRow w.heap.size 3 1 out cs.length (cs.map fun c => Value.int .i64 (c : Nat)) ∧ cutsL l = cs ++ cutsB pos (l.drop pos) ∧ Below w.heap.size w wr

theorem IntsRd.of {w : World} {b : Nat} {v : Value} {cs : List Nat} (h : w.ownsRow b 3 1 v cs.length (cs.map fun c => Value.int .i64 (c : Nat))) (h1 : 1 ≤ cs.length) : IntsRd w v cs := by
  have hlt := h.lt
  have hcell := fun g hg => World.ownsRow.cells (g := g) h hg
  obtain ⟨_, h3 | ⟨g, cap, cur, e1, e2, e3, e4, e5, e6, e7⟩⟩ := h
  · have := h3.2; omega
  · subst e1
    refine ⟨g, cap, rfl, e4, e5, (hlt g rfl).2, fun j c hj => ?_⟩
    have := hcell g rfl j (.int .i64 (c : Nat)) (by rw [List.getElem?_map, hj]; rfl)
    have e : (⟨g, 0, none⟩ : Addr).add j = ⟨g, j, none⟩ := by unfold Addr.add; split <;> simp_all
    rw [e] at this
    exact this

theorem decB (P : ByteArray) (l : Bs) (w : World) (hT : Lib.Utf8Tabs 1 2 w) (hP : P.data.toList = l) :
    Calls Tryd.prog 45 #[.string P] w fun e w' => e = .returned (.tuple #[.int .i32 ((dec l).1 : Nat), .int .i64 ((dec l).2 : Nat)]) ∧ Below w.heap.size w w' := by
  rw [str_eq hP]
  exact decodeL_call l w hT

set_option maxHeartbeats 1000000 in
theorem cuts_call (ae : Addr) (l : Bs) (w : World) (hE : Env ae w) (hl : l.length ≤ 100000000) :
    Calls Tryd.prog 19 #[S l] w fun e w' => ∃ v, e = .returned v ∧ IntsRd w' v (cutsL l) ∧ Below w.heap.size w w' := by
  obtain ⟨i0, hi, hz0, hz1, hz2⟩ := info_parts infoI
  have HE := Lib.hid hE
  have hsz : (⟨l.toArray⟩ : ByteArray).size = l.length := rfl
  have HS := Lib.hid hsz
  clear hE hsz
  go_enter Tryd.func19, Tryd.ntmps19
  go_wp2
  go_loopw [3, 4] (fun o i wr => CutsRel l w o i wr) (fun _ i _ => l.length - (intOf i).toNat)
  case atStart =>
    refine ⟨0, [0], rfl, by omega, by simp, by simp, ?_, ?_, (Below.refl _ w).alloc (Nat.le_refl _) _⟩
    · exact World.ownsRow_lit w #[.int .i64 0] 1 (Nat.le_refl _) (by unfold maxLen; omega) rfl
    · rfl
  case round =>
    obtain ⟨pos, cs, rfl, hpos, hcl, hc1, hown, hcut, hb⟩ := hrel
    have HO := Lib.hid hown
    have HC := Lib.hid hcut
    have HB := Lib.hid hb
    have hne2 : Hid (∀ q, u3.ownBlock = some q → w.heap.size ≤ q) := Lib.hid (fun q hq => (hown.lt q hq).1)
    obtain ⟨va, vc, hform⟩ : ∃ va vc, u3 = .slice va cs.length vc := by
      obtain ⟨g, cap, e, _⟩ := IntsRd.of hown hc1
      exact ⟨_, _, e⟩
    subst hform
    clear hown hcut hb
    by_cases hp : pos < l.length
    · have hne : l.drop pos ≠ [] := by intro e; have := congrArg List.length e; rw [List.length_drop, List.length_nil] at this; omega
      have hge := dec_ge hne
      have hle := dec_le (l.drop pos)
      rw [List.length_drop] at hle
      have HN : Hid (cutsL l = (cs ++ [pos + (dec (l.drop pos)).2]) ++ cutsB (pos + (dec (l.drop pos)).2) (l.drop (pos + (dec (l.drop pos)).2))) := Lib.hid (by
        rw [HC.out, cutsB_ne pos _ hne, List.drop_drop]
        simp)
      have hcall := Lib.hid (fun P hP => decB P (l.drop pos) wr (HE.out.from HE.out HB.out).1 hP)
      have hX : ∀ e, e = l.length → ((⟨l.toArray⟩ : ByteArray).extract pos e).data.toList = l.drop pos := by
        rintro e rfl
        rw [ByteArray.data_extract, Array.toList_extract]
        show ((l.drop pos).take (l.length - pos)) = l.drop pos
        rw [List.take_of_length_le (by rw [List.length_drop]; omega)]
      have HX := Lib.hid hX
      clear hX
      clear HC hne
      generalize (dec (l.drop pos)).1 = R at *
      generalize (dec (l.drop pos)).2 = K at *
      go_wp2_with fail
      refine (hcall.out _ (HX.out _ (by rfl))).mono ?_
      rintro e w2 ⟨rfl, hb2⟩
      have HB2 := Lib.hid (HB.out.trans (hb2.mono HB.out.size))
      have HO2 : Hid (w2.ownsRow w.heap.size 3 1 (.slice va cs.length vc) cs.length (cs.map fun c => Value.int .i64 (c : Nat))) := Lib.hid (World.ownsRow.kept HO.out (row := none) ⟨hb2.os, hb2.tape, hb2.output, hb2.size, fun q hq _ => hb2.block q hq⟩ (by cases va with | none => exact .inl rfl | some x => exact .inr (by intro e; cases e)))
      have hs2 : w.heap.size ≤ w2.heap.size := HB2.out.size
      clear hb2 hcall HB HO
      go_wp2_with (at_builtin; refine wpList_append_own _ rfl _ _ 27 rfl w.heap.size 3 i0 (.int .i64 0) 1 8 Tryd.underlying27 hi hz0 hz1 hz2 rfl (by decide) _ _ _ rfl (HO2.out.alloc _) ⟨w2.heap.size, 0, none⟩ 1 1 [.int .i64 ((pos : Nat) + (K : Nat))] rfl rfl ?c1 ?c2 ?c3 ?c4 ?c5 ?_)
      case c1 => exact cell_one_new _ _ _
      case c2 => intro u hu; simp at hu; subst hu; rfl
      case c3 => unfold maxLen; omega
      case c4 => omega
      case c5 => simp; omega
      · intro v' w4 hown' hgrow hnn
        have HO4 : Hid (w4.ownsRow w.heap.size 3 1 v' (cs ++ [pos + K]).length ((cs ++ [pos + K]).map fun c => Value.int .i64 (c : Nat))) := Lib.hid (by
          rw [List.map_append, List.length_append]
          have e : (List.map (fun c => Value.int IntKind.i64 (c : Nat)) [pos + K]) = [.int .i64 ((pos : Nat) + (K : Nat))] := by simp
          rw [e]
          exact hown')
        have HB4 := Lib.hid ((HB2.out.alloc HB2.out.size _).grown hgrow (by simp; omega) (fun q hq => hne2.out q hq))
        clear hown' hgrow hnn HO2 HB2
        go_wp2
        go_roundw
        case rel => exact ⟨pos + K, cs ++ [pos + K], by go_num, by omega, by simp; omega, by simp, HO4.out, HN.out, HB4.out⟩
        case measure => simp [intOf]; omega
    · obtain rfl : pos = l.length := by omega
      go_wp2
      go_ret
      refine ⟨_, rfl, ?_, HB.out⟩
      have : cutsL l = cs := by rw [HC.out, List.drop_eq_nil_of_le (Nat.le_refl _), cutsB_nil, List.append_nil]
      rw [this]
      exact IntsRd.of HO.out hc1

end Go.Proofs.YtnjinkbhepimkaaDoor

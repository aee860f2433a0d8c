/-
  spec.QuoteBytes: its contract. Conditions: none beyond those of each theorem.
-/
import Derived.Test.YtfmokdgapfbkbaaDoorDrawC
import Derived.Test.YtfmokdgapfbkbaaDoorMatchW
namespace Go.Proofs.YtfmokdgapfbkbaaDoor
open Go.ChangeShapes Go.WideShapes Go.ChangeAt Go.RowKit

/-- A slice of bytes of the call's own. -/
def Byts (B : Nat) (w : World) (v : Value) (bs : List UInt8) : Prop := w.ownsRow B 5 1 v bs.length (bs.map fun b => .int .u8 (b.toNat : Int)) ∧ v ≠ .slice none 0 0

theorem infoU8 : (Tryd.prog.info? 5).map (fun i => (i.zero, i.size, i.bytes)) = some (some (.int .u8 0), 1, 1) := by kernel_rfl

theorem Byts.conv {B : Nat} {w : World} {v : Value} {bs : List UInt8} (h : Byts B w v bs) : (convert 22 9 v).run Tryd.prog w = .ok (S bs) w := by
  obtain ⟨h1, h2⟩ := h
  have hcell := fun g hg => h1.cells (g := g) hg
  obtain ⟨_, h3 | ⟨g, cap, cur, e1, e2, e3, e4, e5, e6, e7⟩⟩ := h1
  · exact absurd h3.1 h2
  · subst e1
    rw [run_convert_bytes_string w 22 9 5 _ _ _ Tryd.underlying22 Tryd.underlying5 Tryd.underlying9]
    rw [run_bytesToString w ⟨g, 0, none⟩ bs.length cap (bs.map fun b => (b.toNat : Int)) ?_]
    · rw [foldl_push_bytes]
      congr 2
      show (⟨ByteArray.empty.data ++ _⟩ : ByteArray) = ⟨bs.toArray⟩
      have e0 : ByteArray.empty.data = #[] := rfl
      rw [e0, Array.empty_append]
      congr 2
      rw [List.map_map]
      conv => rhs; rw [← List.map_id bs]
      apply List.map_congr_left
      intro b _
      simp
    · have := run_loadCells_list (P := Tryd.prog) w ⟨g, 0, none⟩ (bs.map fun b => Value.int .u8 (b.toNat : Int)) (fun j u hj => hcell g rfl j u hj)
      rw [List.length_map] at this
      rw [this, List.map_map]
      rfl

theorem two_cells (w : World) (u v : Value) (t : TypeId) : ∀ (j : Nat) (x : Value), [u, v][j]? = some x → (w.alloc (.cells #[u, v] t)).cell? ((⟨w.heap.size, 0, none⟩ : Addr).add j) = some x := by
  intro j x hj
  match j, hj with
  | 0, hj => simp at hj; subst hj; simp [Addr.add]
  | 1, hj => simp at hj; subst hj; simp [Addr.add]

def qb (l : List UInt8) : List UInt8 := l.flatMap fun b => [92, b]
theorem qb_len (l : List UInt8) : (qb l).length = 2 * l.length := by
  induction l with
  | nil => rfl
  | cons b l ih => simp [qb] at ih ⊢; omega
theorem qb_snoc (l : List UInt8) (b : UInt8) : qb (l ++ [b]) = qb l ++ [92, b] := by simp [qb]

def QbRel (l : List UInt8) (w : World) (v i : Value) (wr : World) : Prop := ∃ k : Nat, k ≤ l.length ∧ i = .int .i64 k ∧ Byts w.heap.size wr v (qb (l.take k)) ∧ Below w.heap.size w wr

theorem quoteBytes_call (l : List UInt8) (w : World) (hl : l.length ≤ 100000000) :
    Calls Tryd.prog 22 #[S l] w fun e w' => e = .returned (S (qb l)) ∧ Below w.heap.size w w' := by
  obtain ⟨i0, hi, hz0, hz1, hz2⟩ := info_parts infoU8
  have hlen : (⟨l.toArray⟩ : ByteArray).size = l.length := by simp [ByteArray.size]
  go_enter Tryd.func22, Tryd.ntmps22
  go_wp2
  go_loopw [3, 4] (fun v i wr => QbRel l w v i wr) (fun _ i _ => l.length - (intOf i).toNat)
  case atStart => exact ⟨0, Nat.zero_le _, rfl, ⟨World.ownsRow_made w #[] 0 (Nat.le_refl _) (by unfold maxLen; omega) rfl, by simp⟩, (Below.refl _ _).alloc (Nat.le_refl _) _⟩
  case round =>
    obtain ⟨k, hk, rfl, hown, hbel⟩ := hrel
    have HO := Lib.hid hown
    have HB := Lib.hid hbel
    clear hown hbel
    by_cases hlt : k < l.length
    · obtain ⟨y, hy⟩ : ∃ y, l[k]? = some y := ⟨l[k], List.getElem?_eq_getElem hlt⟩
      have iK := atK l k y hy
      have HT : Hid (qb (l.take (k + 1)) = qb (l.take k) ++ [92, y]) := by
        apply Lib.hid
        rw [List.take_add_one, hy]
        exact qb_snoc _ _
      have hql : (qb (l.take k)).length = 2 * k := by rw [qb_len, List.length_take]; omega
      have HQ := Lib.hid hql
      clear hy hql
      go_wp2_with (at_builtin; refine wpList_append_own _ rfl _ _ 22 rfl w.heap.size 5 i0 (.int .u8 0) 1 1 Tryd.underlying22 hi hz0 hz1 hz2 rfl (by decide) _ _ _ rfl (HO.out.1.alloc _) ⟨wr.heap.size, 0, none⟩ 2 2 [.int .u8 92, .int .u8 (y.toNat : Int)] rfl rfl ?c1 ?c2 ?c3 ?c4 ?c5 ?_)
      case c1 => exact two_cells _ _ _ _
      case c2 => intro u hu; simp at hu; rcases hu with rfl | rfl <;> rfl
      case c3 => have := HQ.out; unfold maxLen; omega
      case c4 => have := HQ.out; omega
      case c5 => have := HB.out.size; simp; omega
      · intro v' w2 hown' hgrow hnn
        have hne : ∀ k, u3.ownBlock = some k → w.heap.size ≤ k := fun k hk => (HO.out.1.lt k hk).1
        have HO2 : Hid (Byts w.heap.size w2 v' (qb (l.take (k + 1)))) := by
          apply Lib.hid
          rw [HT.out]
          refine ⟨?_, hnn⟩
          rw [List.length_append, List.map_append]
          exact hown'
        have HB2 := Lib.hid ((HB.out.alloc HB.out.size (.cells #[.int .u8 92, .int .u8 (y.toNat : Int)] 5)).grown hgrow (by have := HB.out.size; simp; omega) hne)
        clear hown' hgrow hnn hne
        go_wp2
        go_roundw
        case rel => exact ⟨k + 1, by omega, by go_num, HO2.out, HB2.out⟩
        case measure => simp [intOf]; omega
    · obtain rfl : k = l.length := by omega
      have hcv := HO.out.conv
      rw [List.take_length] at hcv
      go_wp2
      go_ret
      exact ⟨rfl, HB.out⟩

end Go.Proofs.YtfmokdgapfbkbaaDoor

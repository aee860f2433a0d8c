/-
  path.getEsc and path.scanChunk: contracts. Conditions: none beyond those of each theorem.
-/
import Derived.Test.YtcoaoheakeodoaaDoorEnv
import Derived.Lib.PathFns
namespace Go.Proofs.YtcoaoheakeodoaaDoor
open Go.ChangeShapes Go.WideShapes Go.ChangeAt Go.RowKit

theorem ext_tail (b : UInt8) (t : List UInt8) : (⟨(b :: t).toArray⟩ : ByteArray).extract 1 (t.length + 1) = ⟨t.toArray⟩ := by
  have := Lib.Pa.extract_from ⟨(b :: t).toArray⟩ 1
  have e : (⟨(b :: t).toArray⟩ : ByteArray).size = t.length + 1 := by simp [ByteArray.size]
  rw [e] at this
  exact this
theorem ext_drop (l : List UInt8) (k : Nat) : (⟨l.toArray⟩ : ByteArray).extract k l.length = ⟨(l.drop k).toArray⟩ := by
  have := Lib.Pa.extract_from ⟨l.toArray⟩ k
  have e : (⟨l.toArray⟩ : ByteArray).size = l.length := by simp [ByteArray.size]
  rw [e] at this
  exact this
theorem ext_take (l : List UInt8) (k : Nat) : (⟨l.toArray⟩ : ByteArray).extract 0 k = ⟨(l.take k).toArray⟩ := Lib.Pa.extract_upto ⟨l.toArray⟩ k
theorem at0 (b : UInt8) (t : List UInt8) : ∀ h, ((⟨(b :: t).toArray⟩ : ByteArray)[0]'h) = b := fun _ => rfl
theorem atK (l : List UInt8) (k : Nat) (b : UInt8) (hb : l[k]? = some b) : ∀ h, ((⟨l.toArray⟩ : ByteArray)[k]'h) = b := by
  intro h
  have hk : k < l.length := by
    have e : (⟨l.toArray⟩ : ByteArray).size = l.length := by simp [ByteArray.size]
    omega
  rw [List.getElem?_eq_getElem hk] at hb
  injection hb with hb
theorem tneq (b c : UInt8) (n : Int) (hn : (c.toNat : Int) = n) (h : b ≠ c) : ((b.toNat : Int) == n) = false := by
  subst hn
  rw [Lib.Pa.beq_lit]
  simpa using h
theorem teq (b c : UInt8) (n : Int) (hn : (c.toNat : Int) = n) (h : b = c) : ((b.toNat : Int) == n) = true := by
  subst hn
  subst h
  simp

def EscPost (a : Addr) (l : List UInt8) (w : World) (e : Ending) (w' : World) : Prop := Below w.heap.size w w' ∧
  (∀ r c, getEsc l = some (r, c) → e = .returned (.tuple #[.int .i32 (r : Nat), S c, .nilIface])) ∧ (getEsc l = none → ∃ r c, e = .returned (.tuple #[.int .i32 r, S c, errV a]))

set_option maxHeartbeats 800000 in
/-- From the decoding on, the text 'd' behind a backslash or without one. -/
theorem getEsc_tail (a : Addr) (b : UInt8) (t d : List UInt8) (w : World) (hE : Env a w) (hl : (b :: t).length ≤ 1000000000) (h45 : b ≠ 45) (h93 : b ≠ 93) (hd : d ≠ [])
    (hb : (b = 92 ∧ d = t) ∨ (b ≠ 92 ∧ d = b :: t)) :
    Calls Tryd.prog 73 #[S (b :: t)] w (EscPost a (b :: t) w) := by
  have hesc : getEsc (b :: t) = escOf d := by
    rw [getEsc_of, if_neg (by simp), if_neg (by simp [h45, h93])]
    rcases hb with ⟨h1, h2⟩ | ⟨h1, h2⟩
    · rw [if_pos (by simp [h1]), h2]; rfl
    · rw [if_neg (by simp [h1]), h2]
  have hc := hE.2
  have HE := Lib.hid hE
  clear hE
  have hx := ext_tail b t
  have i0 := at0 b t
  have t45 := tneq b 45 45 rfl h45
  have t93 := tneq b 93 93 rfl h93
  have hdl : d.length ≤ 1000000000 := by
    rcases hb with ⟨_, h2⟩ | ⟨_, h2⟩ <;> rw [h2] <;> simp at hl ⊢ <;> omega
  have hle := dec_le d
  have hge := dec_ge hd
  have hne : 1 ≤ d.length := List.length_pos_iff.2 hd
  have hxd := ext_drop d (dec d).2
  have fin : ∀ (e : Ending) (w' : World), Below w.heap.size w w' → (∀ r c, escOf d = some (r, c) → e = .returned (.tuple #[.int .i32 (r : Nat), S c, .nilIface])) → (escOf d = none → ∃ r c, e = .returned (.tuple #[.int .i32 r, S c, errV a])) → EscPost a (b :: t) w e w' :=
    fun e w' h1 h2 h3 => ⟨h1, fun r c h => h2 r c (by rw [← hesc]; exact h), fun h => h3 (by rw [← hesc]; exact h)⟩
  have Fin := Lib.hid fin
  have hnone : badDec d ∨ d.drop (dec d).2 = [] → escOf d = none := fun h => by
    unfold escOf
    rw [if_neg hd]
    rcases h with h | h
    · rw [if_pos h]
    · split
      · rfl
      · first | rfl | rw [if_pos h]
  have hsome : ¬ badDec d → d.drop (dec d).2 ≠ [] → escOf d = some ((dec d).1, d.drop (dec d).2) := fun h1 h2 => by
    unfold escOf
    rw [if_neg hd, if_neg h1, if_neg h2]
  have HN := Lib.hid hnone
  have HSm := Lib.hid hsome
  have hcall := Lib.hid (fun w' hT => decodeL_call d w' hT)
  clear hesc fin hnone hsome h45 h93
  generalize hK : (dec d).2 = K at *
  generalize hR : (dec d).1 = R at *
  have hbad : Hid (badDec d ↔ R = 65533 ∧ K = 1) := by unfold badDec; rw [hR, hK]; exact Iff.rfl
  clear hK hR
  have hcases : Hid ((R = 65533 ∧ K = 1) ∨ K = d.length → escOf d = none) := fun h => HN.out (h.elim (fun h => .inl (hbad.out.2 h)) (fun h => .inr (List.drop_eq_nil_of_le (by omega))))
  have hgood : Hid (¬ (R = 65533 ∧ K = 1) → K ≠ d.length → escOf d = some (R, d.drop K)) := fun h1 h2 => HSm.out (fun h => h1 (hbad.out.1 h)) (fun h => by
    have := congrArg List.length h
    rw [List.length_drop, List.length_nil] at this
    omega)
  have finBad : Hid ((R = 65533 ∧ K = 1) ∨ K = d.length → ∀ (w' : World) (x : Int) (c : List UInt8), Below w.heap.size w w' → EscPost a (b :: t) w (.returned (.tuple #[.int .i32 x, S c, errV a])) w') := fun h w' x c hB => Fin.out _ _ hB (fun r c' h' => by rw [hcases.out h] at h'; cases h') (fun _ => ⟨x, c, rfl⟩)
  have finGood : Hid (¬ (R = 65533 ∧ K = 1) → K ≠ d.length → ∀ w' : World, Below w.heap.size w w' → EscPost a (b :: t) w (.returned (.tuple #[.int .i32 (R : Nat), S (d.drop K), .nilIface])) w') := fun h1 h2 w' hB => Fin.out _ _ hB (fun r c' h' => by rw [hgood.out h1 h2] at h'; injection h' with h'; injection h' with h3 h4; rw [← h3, ← h4]) (fun h' => by rw [hgood.out h1 h2] at h'; cases h')
  clear hcases hgood hbad HN HSm Fin
  have hlx : (⟨(d.drop K).toArray⟩ : ByteArray).size = d.length - K := by simp [ByteArray.size]
  have hsd : (⟨d.toArray⟩ : ByteArray).size = d.length := by simp [ByteArray.size]
  have HXD := Lib.hid hxd
  have HLX := Lib.hid hlx
  have HSD := Lib.hid hsd
  clear hlx hsd hxd
  rcases hb with ⟨hb, hdt⟩ | ⟨hb, hdt⟩
  · have t92 := teq b 92 92 rfl hb
    subst hdt
    clear hb
    have hle' : K ≤ d.length := hle
    have HXE : Hid ((⟨(d).toArray⟩ : ByteArray).extract K d.length = ⟨(List.drop K d).toArray⟩) := HXD.out
    clear HXD
    go_enter Tryd.func73, Tryd.ntmps73
    go_wp2_with fail
    refine (hcall.out _ HE.out.1).mono ?_
    rintro e w1 ⟨rfl, hb1⟩
    have hc1 := (HE.out.on hb1).2
    have HB := Lib.hid hb1
    clear hb1 hcall hc HE
    by_cases hbd : R = 65533 ∧ K = 1
    · obtain ⟨rfl, rfl⟩ := hbd
      have Fb := Lib.hid (finBad.out (.inl ⟨rfl, rfl⟩) w1 65533 (List.drop 1 d) HB.out)
      clear finBad finGood
      go_wp2
      all_goals go_ret3
      all_goals first | exact Fb.out | (show EscPost a _ w (.returned (.tuple #[.int .i32 65533, .string (ByteArray.extract _ 1 _), errV a])) w1; rw [HXE.out]; exact Fb.out)
    · by_cases hz : K = List.length d
      · have Fx := Lib.hid (finBad.out (.inr hz) w1 R (List.drop K d) HB.out)
        have hz' : (((d.length - K : Nat) : Int) == 0) = true := by rw [beq_iff_eq]; have : K = d.length := hz; omega
        clear finBad finGood hz
        have hk' : R = 65533 → (((K : Nat) : Int) == 1) = false := fun h => by rw [beq_eq_false_iff_ne]; intro e; exact hbd ⟨h, by omega⟩
        by_cases hr : R = 65533
        · have hkk := hk' hr
          clear hk' hbd
          obtain rfl : R = 65533 := hr
          go_wp2
          go_ret3
          show EscPost a _ w (.returned (.tuple #[.int .i32 65533, .string (ByteArray.extract _ K _), errV a])) w1
          rw [HXE.out]
          exact Fx.out
        · have hr' : (((R : Nat) : Int) == 65533) = false := by rw [beq_eq_false_iff_ne]; omega
          clear hk'
          go_wp2
          go_ret3
          show EscPost a _ w (.returned (.tuple #[.int .i32 (R : Nat), .string (ByteArray.extract _ K _), errV a])) w1
          rw [HXE.out]
          exact Fx.out
      · have Fx := Lib.hid (finGood.out hbd hz w1 HB.out)
        have hz' : (((d.length - K : Nat) : Int) == 0) = false := by rw [beq_eq_false_iff_ne]; have : K ≠ d.length := hz; have : K ≤ d.length := hle; omega
        clear finBad finGood hz
        have hk' : R = 65533 → (((K : Nat) : Int) == 1) = false := fun h => by rw [beq_eq_false_iff_ne]; intro e; exact hbd ⟨h, by omega⟩
        by_cases hr : R = 65533
        · have hkk := hk' hr
          clear hk' hbd
          obtain rfl : R = 65533 := hr
          go_wp2
          go_ret3
          show EscPost a _ w (.returned (.tuple #[.int .i32 65533, .string (ByteArray.extract _ K _), .nilIface])) w1
          rw [HXE.out]
          exact Fx.out
        · have hr' : (((R : Nat) : Int) == 65533) = false := by rw [beq_eq_false_iff_ne]; omega
          clear hk'
          go_wp2
          go_ret3
          show EscPost a _ w (.returned (.tuple #[.int .i32 (R : Nat), .string (ByteArray.extract _ K _), .nilIface])) w1
          rw [HXE.out]
          exact Fx.out
  · have t92 := tneq b 92 92 rfl hb
    subst hdt
    clear hb
    have hle' : K ≤ t.length + 1 := hle
    have HXE : Hid ((⟨((b :: t)).toArray⟩ : ByteArray).extract K (t.length + 1) = ⟨(List.drop K (b :: t)).toArray⟩) := HXD.out
    clear HXD
    go_enter Tryd.func73, Tryd.ntmps73
    go_wp2_with fail
    refine (hcall.out _ HE.out.1).mono ?_
    rintro e w1 ⟨rfl, hb1⟩
    have hc1 := (HE.out.on hb1).2
    have HB := Lib.hid hb1
    clear hb1 hcall hc HE
    by_cases hbd : R = 65533 ∧ K = 1
    · obtain ⟨rfl, rfl⟩ := hbd
      have Fb := Lib.hid (finBad.out (.inl ⟨rfl, rfl⟩) w1 65533 (List.drop 1 (b :: t)) HB.out)
      clear finBad finGood
      go_wp2
      all_goals go_ret3
      all_goals first | exact Fb.out | (show EscPost a _ w (.returned (.tuple #[.int .i32 65533, .string (ByteArray.extract _ 1 _), errV a])) w1; rw [HXE.out]; exact Fb.out)
    · by_cases hz : K = List.length (b :: t)
      · have Fx := Lib.hid (finBad.out (.inr hz) w1 R (List.drop K (b :: t)) HB.out)
        have hz' : ((((t.length + 1) - K : Nat) : Int) == 0) = true := by rw [beq_iff_eq]; have : K = (t.length + 1) := hz; omega
        clear finBad finGood hz
        have hk' : R = 65533 → (((K : Nat) : Int) == 1) = false := fun h => by rw [beq_eq_false_iff_ne]; intro e; exact hbd ⟨h, by omega⟩
        by_cases hr : R = 65533
        · have hkk := hk' hr
          clear hk' hbd
          obtain rfl : R = 65533 := hr
          go_wp2
          go_ret3
          show EscPost a _ w (.returned (.tuple #[.int .i32 65533, .string (ByteArray.extract _ K _), errV a])) w1
          rw [HXE.out]
          exact Fx.out
        · have hr' : (((R : Nat) : Int) == 65533) = false := by rw [beq_eq_false_iff_ne]; omega
          clear hk'
          go_wp2
          go_ret3
          show EscPost a _ w (.returned (.tuple #[.int .i32 (R : Nat), .string (ByteArray.extract _ K _), errV a])) w1
          rw [HXE.out]
          exact Fx.out
      · have Fx := Lib.hid (finGood.out hbd hz w1 HB.out)
        have hz' : ((((t.length + 1) - K : Nat) : Int) == 0) = false := by rw [beq_eq_false_iff_ne]; have : K ≠ (t.length + 1) := hz; have : K ≤ (t.length + 1) := hle; omega
        clear finBad finGood hz
        have hk' : R = 65533 → (((K : Nat) : Int) == 1) = false := fun h => by rw [beq_eq_false_iff_ne]; intro e; exact hbd ⟨h, by omega⟩
        by_cases hr : R = 65533
        · have hkk := hk' hr
          clear hk' hbd
          obtain rfl : R = 65533 := hr
          go_wp2
          go_ret3
          show EscPost a _ w (.returned (.tuple #[.int .i32 65533, .string (ByteArray.extract _ K _), .nilIface])) w1
          rw [HXE.out]
          exact Fx.out
        · have hr' : (((R : Nat) : Int) == 65533) = false := by rw [beq_eq_false_iff_ne]; omega
          clear hk'
          go_wp2
          go_ret3
          show EscPost a _ w (.returned (.tuple #[.int .i32 (R : Nat), .string (ByteArray.extract _ K _), .nilIface])) w1
          rw [HXE.out]
          exact Fx.out

theorem getEsc_call (a : Addr) (l : List UInt8) (w : World) (hE : Env a w) (hl : l.length ≤ 1000000000) :
    Calls Tryd.prog 73 #[S l] w (EscPost a l w) := by
  have hc := hE.2
  have bad : ∀ (r : Int) (c : List UInt8), getEsc l = none → EscPost a l w (.returned (.tuple #[.int .i32 r, S c, errV a])) w := fun r c h => ⟨Below.refl _ _, fun r' c' h' => (by rw [h] at h'; cases h'), fun _ => ⟨r, c, rfl⟩⟩
  cases l with
  | nil =>
    have F := Lib.hid (bad 0 [] (by rfl))
    clear bad hE
    go_enter Tryd.func73, Tryd.ntmps73
    go_wp2
    go_ret3
    exact F.out
  | cons b t =>
    by_cases h45 : b = 45
    · have F := Lib.hid (bad 0 [] (by rw [getEsc_of, if_neg (by simp), if_pos (by simp [h45])]))
      have i0 := at0 b t
      have t45 := teq b 45 45 rfl h45
      clear bad hE h45
      go_enter Tryd.func73, Tryd.ntmps73
      go_wp2
      go_ret3
      exact F.out
    · by_cases h93 : b = 93
      · have F := Lib.hid (bad 0 [] (by rw [getEsc_of, if_neg (by simp), if_pos (by simp [h93])]))
        have i0 := at0 b t
        have t45 := tneq b 45 45 rfl h45
        have t93 := teq b 93 93 rfl h93
        clear bad hE h45 h93
        go_enter Tryd.func73, Tryd.ntmps73
        go_wp2
        go_ret3
        exact F.out
      · by_cases h92 : b = 92
        · cases t with
          | nil =>
            have F := Lib.hid (bad 0 [] (by rw [getEsc_of, if_neg (by simp), if_neg (by simp [h45, h93]), if_pos (by simp [h92])]; rfl))
            have i0 := at0 b []
            have hx := ext_tail b []
            have t45 := tneq b 45 45 rfl h45
            have t93 := tneq b 93 93 rfl h93
            have t92 := teq b 92 92 rfl h92
            clear bad hE h45 h93 h92
            go_enter Tryd.func73, Tryd.ntmps73
            go_wp2
            go_ret3
            exact F.out
          | cons x t' => exact getEsc_tail a b (x :: t') (x :: t') w hE hl h45 h93 (by simp) (.inl ⟨h92, rfl⟩)
        · exact getEsc_tail a b t (b :: t) w hE hl h45 h93 (by simp) (.inr ⟨h92, rfl⟩)

end Go.Proofs.YtcoaoheakeodoaaDoor

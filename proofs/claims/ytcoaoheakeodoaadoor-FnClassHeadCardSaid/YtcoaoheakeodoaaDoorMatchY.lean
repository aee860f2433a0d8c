/-
  path.matchChunk: its contract. Conditions: none beyond those of each theorem.
-/
import Derived.Test.YtcoaoheakeodoaaDoorMatchX
import Derived.Deep.DeepCutAuto
namespace Go.Proofs.YtcoaoheakeodoaaDoor
open Go.ChangeShapes Go.WideShapes Go.ChangeAt Go.RowKit

theorem inR_snoc (L : List (Nat × Nat)) (x : Nat × Nat) (r : Nat) : inR (L ++ [x]) r = (inR L r || decide (x.1 ≤ r ∧ r ≤ x.2)) := by simp [inR]

def ClsRel (a : Addr) (w : World) (c1 : List UInt8) (R : Nat) (p er ma nr : Value) (wr : World) : Prop :=
  ∃ (c : List UInt8) (L : List (Nat × Nat)), p = S c ∧ er = .nilIface ∧ ma = .bool (inR L R) ∧ nr = .int .i64 (L.length : Nat) ∧ ranges c1 0 = (ranges c L.length).map (fun x => (L ++ x.1, x.2)) ∧ L.length + c.length ≤ c1.length ∧ Env a wr ∧ Below w.heap.size w wr

theorem ranges_more {c : List UInt8} {k : Nat} {lo : Nat} {z : UInt8} {c3 : List UInt8}
    (h : ranges c k = match getEsc c with
      | none => none
      | some (lo, c1) => if c1.head? = some 45 then (match getEsc c1.tail with | none => none | some (hi, c2) => (ranges c2 (k + 1)).map fun x => ((lo, hi) :: x.1, x.2)) else (ranges c1 (k + 1)).map fun x => ((lo, lo) :: x.1, x.2))
    (hge : getEsc c = some (lo, z :: c3)) :
    ranges c k = if z = 45 then (match getEsc c3 with | none => none | some (hi, c4) => (ranges c4 (k + 1)).map fun q => ((lo, hi) :: q.1, q.2)) else (ranges (z :: c3) (k + 1)).map fun q => ((lo, lo) :: q.1, q.2) := by
  rw [h, hge]
  by_cases hz45 : z = 45 <;> simp [hz45]

theorem cls_next {a : Addr} {w w' : World} {c1 c c4 : List UInt8} {R lo hi : Nat} {L : List (Nat × Nat)} {b : Bool} (h0 : ranges c1 0 = (ranges c L.length).map (fun x => (L ++ x.1, x.2)))
    (h1 : ranges c L.length = (ranges c4 (L.length + 1)).map (fun q => ((lo, hi) :: q.1, q.2))) (h2 : c4.length < c.length) (hl : L.length + c.length ≤ c1.length) (h3 : Env a w') (h4 : Below w.heap.size w w') (h5 : b = (inR L R || decide (lo ≤ R ∧ R ≤ hi))) :
    ClsRel a w c1 R (S c4) .nilIface (.bool b) (.int .i64 ((L.length : Nat) + 1)) w' := by
  refine ⟨c4, L ++ [(lo, hi)], rfl, rfl, by rw [inR_snoc, h5], by simp, ?_, by simp; omega, h3, h4⟩
  rw [h0, h1, Option.map_map, List.length_append]
  congr 1
  funext q
  simp

def ChkRel (a : Addr) (w : World) (c0 s0 : List UInt8) (p s er fl : Value) (wr : World) : Prop :=
  ∃ (c : List UInt8) (so : Option (List UInt8)) (s' : List UInt8), p = S c ∧ s = S s' ∧ er = .nilIface ∧ fl = .bool so.isNone ∧ (∀ x, so = some x → x = s') ∧ chunkF c0 s0 = (parse true c).map (fun ts => steps ts so) ∧ c.length ≤ c0.length ∧ s'.length ≤ s0.length ∧ Env a wr ∧ Below w.heap.size w wr

def ChkPost (a : Addr) (c s : List UInt8) (w : World) (e : Ending) (w' : World) : Prop := Below w.heap.size w w' ∧
  (∀ t, chunkF c s = some (some t) → e = .returned (.tuple #[S t, .bool true, .nilIface])) ∧ (chunkF c s = some none → e = .returned (.tuple #[S [], .bool false, .nilIface])) ∧ (chunkF c s = none → e = .returned (.tuple #[S [], .bool false, errV a]))

set_option maxRecDepth 100000 in
set_option maxHeartbeats 16000000 in
theorem matchChunk_call (a : Addr) (c0 s0 : List UInt8) (w : World) (hE : Env a w) (hc0 : c0.length ≤ 1000000000) (_hs0 : s0.length ≤ 1000000000) :
    Calls Tryd.prog 64 #[S c0, S s0] w (ChkPost a c0 s0 w) := by
  have HE := Lib.hid hE
  clear hE
  go_enter Tryd.func64, Tryd.ntmps64
  go_wp2
  go_loopw [0, 1, 6, 7] (fun p s er fl wr => ChkRel a w c0 s0 p s er fl wr) (fun p _ _ _ _ => strLen p)
  case atStart => exact ⟨c0, some s0, s0, rfl, rfl, rfl, rfl, fun x h => by injection h with h; exact h.symm, rfl, Nat.le_refl _, Nat.le_refl _, HE.out, Below.refl _ _⟩
  case round =>
    obtain ⟨c, so, s, rfl, rfl, rfl, rfl, hso, hck, hcl, hsl, hEr, hBr⟩ := hrel
    have HC := Lib.hid hck
    have HSo := Lib.hid hso
    have HEr := Lib.hid hEr
    have HB := Lib.hid hBr
    clear hck hso hEr hBr HE
    cases c with
    | nil =>
      cases so with
      | none =>
        go_wp2
        go_ret3
        refine ⟨HB.out, fun t h => ?_, fun _ => rfl, fun h => ?_⟩
        · rw [HC.out] at h; cases h
        · rw [HC.out] at h; cases h
      | some x =>
        obtain rfl := HSo.out x rfl
        go_wp2
        go_ret3
        refine ⟨HB.out, fun t h => ?_, fun h => ?_, fun h => ?_⟩
        · rw [HC.out] at h; injection h with h; injection h with h; rw [← h]; rfl
        · rw [HC.out] at h; cases h
        · rw [HC.out] at h; cases h
    | cons b t =>
      have i0 := at0 b t
      have hx := ext_tail b t
      have htl : t.length + 1 ≤ c0.length := hcl
      -- the state behind 'failed = failed || len(s) == 0'
      have hstep : ∀ (x : Tm) (ts : List Tm), steps (x :: ts) so = steps ts ((so.bind (fun u => if u = [] then none else some u)).bind (step x)) := by
        intro x ts
        cases so with
        | none => rfl
        | some u =>
          cases u with
          | nil => rfl
          | cons y u' => rfl
      have HSt := Lib.hid hstep
      clear hstep
      by_cases h91 : b = 91
      · have t91 := teq b 91 91 rfl h91
        as_aux_lemma =>
          have HP : Hid (chunkF c0 s0 = match ranges (classHead t).2 0 with
              | none => none
              | some (rs, r) => (parse true r).map fun ts => steps (Tm.cls (classHead t).1 rs :: ts) so) := by
            apply Lib.hid
            rw [HC.out, h91, parse_cls]
            cases ranges (classHead t).2 0 with
            | none => rfl
            | some y =>
              obtain ⟨rs, r⟩ := y
              simp only [Option.map_map]
              rfl
          clear HC h91
          obtain ⟨fl, hfl⟩ : ∃ fl : Bool, fl = (so.isNone || s.isEmpty) := ⟨_, rfl⟩
          have HF := Lib.hid hfl
          clear hfl
          go_upto_region 3 with (fail)
          go_cut [7] (fun f wx => f = .bool fl ∧ wx = wr)
          case first =>
            cases so with
            | none =>
              go_wp2
              go_meet
              exact ⟨by rw [HF.out]; rfl, rfl⟩
            | some x =>
              obtain rfl := HSo.out x rfl
              cases x with
              | nil =>
                go_wp2
                go_meet
                exact ⟨by rw [HF.out]; rfl, rfl⟩
              | cons y u =>
                go_wp2
                go_meet
                exact ⟨by rw [HF.out]; rfl, rfl⟩
          case rest =>
            obtain ⟨rfl, rfl⟩ := hcut
            go_upto_if 35 with (fail)
            go_cut [1, 8, 9] (fun s1 r1 n1 wx => ∃ (R : Nat) (s2 : List UInt8), s1 = S s2 ∧ r1 = .int .i32 (R : Nat) ∧ s2.length ≤ s0.length ∧ (chunkF c0 s0 = match ranges (classHead t).2 0 with
              | none => none
              | some (rs, r) => (parse true r).map fun ts => steps ts (if fl then none else if inR rs R = (classHead t).1 then none else some s2)) ∧ Env a wx ∧ Below w.heap.size w wx)
            case first =>
              by_cases hfl : fl = true
              · obtain rfl : true = fl := hfl.symm
                have HQ : Hid (chunkF c0 s0 = match ranges (classHead t).2 0 with
                    | none => none
                    | some (rs, r) => (parse true r).map fun ts => steps ts none) := by
                  apply Lib.hid
                  rw [HP.out]
                  have hst : ∀ ts ng rs, steps (Tm.cls ng rs :: ts) so = steps ts none := by
                    intro ts ng rs
                    cases so with
                    | none => rfl
                    | some x =>
                      have := HSo.out x rfl
                      have h2 := HF.out
                      subst this
                      cases x with
                      | nil => rfl
                      | cons y u => cases h2
                  simp only [hst]
                clear HP HF hfl
                go_wp2
                go_meet
                exact ⟨0, s, rfl, rfl, hsl, HQ.out, HEr.out, HB.out⟩
              · obtain rfl : false = fl := (by cases fl with | false => rfl | true => exact absurd rfl hfl)
                obtain ⟨y, u, rfl, rfl⟩ : ∃ y u, s = y :: u ∧ so = some (y :: u) := by
                  cases so with
                  | none => have := HF.out; cases this
                  | some x =>
                    have := HSo.out x rfl
                    have h2 := HF.out
                    subst this
                    cases x with
                    | nil => cases h2
                    | cons y u => exact ⟨y, u, rfl, rfl⟩
                have hsl' : u.length + 1 ≤ s0.length := hsl
                have HX := Lib.hid (ext_drop (y :: u) (dec (y :: u)).2)
                have hle : (dec (y :: u)).2 ≤ u.length + 1 := dec_le (y :: u)
                have hcall := Lib.hid (decodeL_call (y :: u) _ HEr.out.1)
                have hdl : (List.drop (dec (y :: u)).2 (y :: u)).length ≤ s0.length := by rw [List.length_drop]; simp at hsl ⊢; omega
                have HQ : Hid (chunkF c0 s0 = match ranges (classHead t).2 0 with
                    | none => none
                    | some (rs, r) => (parse true r).map fun ts => steps ts (if inR rs (dec (y :: u)).1 = (classHead t).1 then none else some ((y :: u).drop (dec (y :: u)).2))) := by
                  apply Lib.hid
                  rw [HP.out]
                  rfl
                clear HP HF HSt HSo hfl
                generalize (dec (y :: u)).1 = R at *
                generalize (dec (y :: u)).2 = K at *
                go_wp2_with fail
                refine hcall.out.mono ?_
                rintro e w1 ⟨rfl, hb1⟩
                have HE1 := Lib.hid (HEr.out.on hb1)
                have HB1 := Lib.hid (HB.out.trans (hb1.mono HB.out.size))
                clear hb1 hcall
                go_wp2
                go_meet
                exact ⟨R, (y :: u).drop K, congrArg Value.string HX.out, rfl, hdl, HQ.out, HE1.out, HB1.out⟩
            case rest =>
              clear HP HF HSt HSo HEr HB hsl i0 t91
              obtain ⟨R, s2, rfl, rfl, hs2, hN, hEo, hBo⟩ := hcut
              have HN0 := Lib.hid hN
              have HEo := Lib.hid hEo
              have HBo := Lib.hid hBo
              clear hN hEo hBo
              go_upto_region 15 with (fail)
              go_cut [53] (fun b wx => b = .bool (t.head? == some 94) ∧ wx = wc)
              case first =>
                cases t with
                | nil =>
                  go_wp2
                  go_meet
                  exact ⟨rfl, rfl⟩
                | cons x r =>
                  have k1 := at0 x r
                  by_cases h94 : x = 94
                  · have t94 := teq x 94 94 rfl h94
                    have HH : Hid (true = ((x :: r).head? == some 94)) := by apply Lib.hid; simp [h94]
                    clear h94
                    go_wp2
                    go_meet
                    exact ⟨congrArg Value.bool HH.out, rfl⟩
                  · have t94 := tneq x 94 94 rfl h94
                    have HH : Hid (false = ((x :: r).head? == some 94)) := by apply Lib.hid; simp [h94]
                    clear h94
                    go_wp2
                    go_meet
                    exact ⟨congrArg Value.bool HH.out, rfl⟩
              case rest =>
                obtain ⟨rfl, rfl⟩ := hcut
                go_upto_if 53 with (fail)
                go_cut [0, 10] (fun p1 ng wx => ∃ (c1 : List UInt8) (neg : Bool), p1 = S c1 ∧ ng = .bool neg ∧ c1.length ≤ t.length ∧ (chunkF c0 s0 = match ranges c1 0 with
                  | none => none
                  | some (rs, r) => (parse true r).map fun ts => steps ts (if fl then none else if inR rs R = neg then none else some s2)) ∧ wx = wc)
                case first =>
                  by_cases h94 : t.head? = some 94
                  · obtain ⟨c1, rfl⟩ : ∃ c1, t = 94 :: c1 := by
                      cases t with
                      | nil => cases h94
                      | cons x r => exact ⟨r, by simp at h94; rw [h94]⟩
                    have hz1 := ext_tail 94 c1
                    have hb : ((94 :: c1 : List UInt8).head? == some 94) = true := rfl
                    have hcc : c1.length ≤ (94 :: c1).length := by simp
                    rw [hb]
                    clear hb h94
                    go_wp2
                    go_meet
                    exact ⟨c1, true, rfl, rfl, hcc, HN0.out, rfl⟩
                  · have hb : (t.head? == some 94) = false := by simpa using h94
                    have e1 : Hid (classHead t = (false, t)) := by apply Lib.hid; unfold classHead; rw [if_neg h94]
                    rw [hb]
                    clear hb h94
                    go_wp2
                    go_meet
                    exact ⟨t, false, rfl, rfl, Nat.le_refl _, by rw [HN0.out, e1.out], rfl⟩
                case rest =>
                  clear HN0
                  obtain ⟨c1, neg, rfl, rfl, hcc, hN, rfl⟩ := hcut
                  have HN := Lib.hid hN
                  clear hN hx
                  go_wp2
                  go_loopw [0, 6, 11, 12] (fun p er ma nr wr => ClsRel a w c1 R p er ma nr wr) (fun p _ _ _ _ => strLen p)
                  case atStart => exact ⟨c1, [], rfl, rfl, rfl, rfl, by simp, by simp, HEo.out, HBo.out⟩
                  case round =>
                    clear HEo HBo
                    obtain ⟨c, L, rfl, rfl, rfl, rfl, hrg, hLc, hEr, hBr⟩ := hrel
                    have HRg := Lib.hid hrg
                    have HEr := Lib.hid hEr
                    have HB := Lib.hid hBr
                    clear hrg hEr hBr
                    have Bad : Hid (∀ (w' : World), Below w.heap.size w w' → ranges c L.length = none → ChkPost a c0 s0 w (.returned (.tuple #[S [], .bool false, errV a])) w') := by
                      intro w' hb hn
                      have hz : chunkF c0 s0 = none := by
                        rw [HN.out, HRg.out, hn]
                        rfl
                      exact ⟨hb, fun t h => (by rw [hz] at h; cases h), fun h => (by rw [hz] at h; cases h), fun _ => rfl⟩
                    by_cases hend : c.head? = some 93 ∧ 0 < L.length
                    · obtain ⟨r, rfl⟩ : ∃ r, c = 93 :: r := by
                        cases c with
                        | nil => cases hend.1
                        | cons x r => exact ⟨r, by have := hend.1; simp at this; rw [this]⟩
                      have k0 := at0 93 r
                      have hz := ext_tail 93 r
                      have hL0 := hend.2
                      have HD : Hid (chunkF c0 s0 = (parse true r).map fun ts => steps ts (if fl then none else if inR L R = neg then none else some s2)) := by
                        apply Lib.hid
                        rw [HN.out, HRg.out, ranges_eq, if_pos hend]
                        simp
                      have hrl : r.length + 1 + L.length ≤ c1.length := by simp at hLc; omega
                      clear hend Bad HRg HN
                      generalize inR L R = m at *
                      cases hfl : fl with
                      | true =>
                        subst hfl
                        go_wp2
                        go_roundw
                        case rel => exact ⟨r, none, s2, rfl, rfl, rfl, rfl, fun x h => (by cases h), HD.out, by omega, hs2, HEr.out, HB.out⟩
                        case measure => simp [strLen, ByteArray.size]; omega
                      | false =>
                        subst hfl
                        by_cases hm : m = neg
                        · subst hm
                          go_wp2
                          go_roundw
                          case rel => exact ⟨r, none, s2, rfl, rfl, rfl, rfl, fun x h => (by cases h), by rw [HD.out]; simp, by omega, hs2, HEr.out, HB.out⟩
                          case measure => simp [strLen, ByteArray.size]; omega
                        · have hm' : (m == neg) = false := by simpa using hm
                          have HD2 : Hid (chunkF c0 s0 = (parse true r).map fun ts => steps ts (some s2)) := by
                            apply Lib.hid
                            rw [HD.out]
                            simp [hm]
                          clear hm HD
                          go_wp2
                          go_roundw
                          case rel => exact ⟨r, some s2, s2, rfl, rfl, rfl, rfl, fun x h => (by injection h with h; exact h.symm), HD2.out, by omega, hs2, HEr.out, HB.out⟩
                          case measure => simp [strLen, ByteArray.size]; omega
                    · have HRe : Hid (ranges c L.length = match getEsc c with
                        | none => none
                        | some (lo, c1) => if c1.head? = some 45 then (match getEsc c1.tail with | none => none | some (hi, c2) => (ranges c2 (L.length + 1)).map fun x => ((lo, hi) :: x.1, x.2)) else (ranges c1 (L.length + 1)).map fun x => ((lo, lo) :: x.1, x.2)) := by
                        apply Lib.hid
                        exact (ranges_eq c L.length).trans (if_neg hend)
                      have hcl2 : c.length ≤ 1000000000 := by omega
                      have hcall := Lib.hid (getEsc_call a c wr HEr.out hcl2)
                      -- the first test is false
                      have htest : (c = [] ∨ ∃ x r, c = x :: r ∧ (x ≠ 93 ∨ L.length = 0)) := by
                        cases c with
                        | nil => exact .inl rfl
                        | cons x r =>
                          refine .inr ⟨x, r, rfl, ?_⟩
                          by_cases hx93 : x = 93
                          · right
                            rcases Nat.eq_zero_or_pos L.length with h | h
                            · exact h
                            · exact absurd ⟨by simp [hx93], h⟩ hend
                          · exact .inl hx93
                      clear hend
                      have walkTo : True := trivial
                      rcases htest with rfl | ⟨x, r, rfl, hx93⟩
                      · have hnone : ranges [] L.length = none := by rw [HRe.out]; rfl
                        go_wp2_with fail
                        refine hcall.out.mono ?_
                        rintro e w1 ⟨hb1, _, hbad⟩
                        obtain ⟨r, c2, rfl⟩ := hbad rfl
                        have HB1 := Lib.hid (HB.out.trans (hb1.mono HB.out.size))
                        clear hb1 hcall hbad
                        have F := Lib.hid (Bad.out w1 HB1.out hnone)
                        clear hnone Bad
                        go_wp2
                        go_ret3
                        exact F.out
                      · have k0 := at0 x r
                        have hcl3 : r.length + 1 + L.length ≤ c1.length := by simp at hLc; omega
                        rcases (show (x ≠ 93 ∧ True) ∨ (x = 93 ∧ L.length = 0) from by by_cases h : x = 93; exact .inr ⟨h, hx93.resolve_left (fun h' => h' h)⟩; exact .inl ⟨h, trivial⟩) with ⟨hx, _⟩ | ⟨hx, hL0⟩
                        · have t93 := tneq x 93 93 rfl hx
                          clear hx hx93
                          go_wp2_with fail
                          refine hcall.out.mono ?_
                          rintro e w1 ⟨hb1, hgood, hbad⟩
                          have HB1 := Lib.hid (HB.out.trans (hb1.mono HB.out.size))
                          have HE1 := Lib.hid (HEr.out.on hb1)
                          clear hb1 hcall HB HEr
                          cases hge : getEsc (x :: r) with
                          | none =>
                            obtain ⟨r', c2, rfl⟩ := hbad hge
                            have F := Lib.hid (Bad.out w1 HB1.out (by rw [HRe.out, hge]))
                            clear hbad hgood hge Bad HRe HRg HN
                            go_wp2
                            go_ret3
                            exact F.out
                          | some y =>
                            obtain ⟨lo, c2⟩ := y
                            obtain rfl := hgood lo c2 hge
                            have hlt := getEsc_lt hge
                            obtain ⟨z, c3, rfl⟩ : ∃ z c3, c2 = z :: c3 := by
                              cases c2 with
                              | nil => exact absurd rfl hlt.1
                              | cons z c3 => exact ⟨z, c3, rfl⟩
                            have hlt3 : c3.length + 1 < r.length + 1 := hlt.2
                            have m0 := at0 z c3
                            have hzx := ext_tail z c3
                            have HR1 : Hid (ranges (x :: r) L.length = if z = 45 then (match getEsc c3 with | none => none | some (hi, c4) => (ranges c4 (L.length + 1)).map fun q => ((lo, hi) :: q.1, q.2)) else (ranges (z :: c3) (L.length + 1)).map fun q => ((lo, lo) :: q.1, q.2)) := Lib.hid (ranges_more HRe.out hge)
                            have hcall := Lib.hid (getEsc_call a c3 w1 HE1.out (by omega))
                            clear hbad hgood hge hlt HRe HN k0 t93
                            go_upto_if 82 with (fail)
                            go_cut [0, 6, 14] (fun p er h wx => ∃ (hi : Nat) (c4 : List UInt8), p = S c4 ∧ er = .nilIface ∧ h = .int .i32 (hi : Nat) ∧ ranges (x :: r) L.length = (ranges c4 (L.length + 1)).map (fun q => ((lo, hi) :: q.1, q.2)) ∧ c4.length < r.length + 1 ∧ Env a wx ∧ Below w.heap.size w wx)
                            case first =>
                              clear HRg
                              by_cases hz45 : z = 45
                              · have t45 := teq z 45 45 rfl hz45
                                have HR2 : Hid (ranges (x :: r) L.length = match getEsc c3 with | none => none | some (hi, c4) => (ranges c4 (L.length + 1)).map fun q => ((lo, hi) :: q.1, q.2)) := by
                                  apply Lib.hid
                                  rw [HR1.out, if_pos hz45]
                                clear hz45 HR1
                                go_wp2_with fail
                                refine hcall.out.mono ?_
                                rintro e w2 ⟨hb2, hgood, hbad⟩
                                have HB2 := Lib.hid (HB1.out.trans (hb2.mono HB1.out.size))
                                have HE2 := Lib.hid (HE1.out.on hb2)
                                clear hb2 hcall HB1 HE1
                                cases hge : getEsc c3 with
                                | none =>
                                  obtain ⟨r', c4, rfl⟩ := hbad hge
                                  have F := Lib.hid (Bad.out w2 HB2.out (by rw [HR2.out, hge]))
                                  clear hbad hgood hge Bad HR2
                                  go_wp2
                                  go_ret3
                                  exact F.out
                                | some y =>
                                  obtain ⟨hi, c4⟩ := y
                                  obtain rfl := hgood hi c4 hge
                                  have hlt := (getEsc_lt hge).2
                                  have hlt4 : c4.length < r.length + 1 := by omega
                                  have F : Hid (ranges (x :: r) L.length = (ranges c4 (L.length + 1)).map (fun q => ((lo, hi) :: q.1, q.2))) := by
                                    apply Lib.hid
                                    rw [HR2.out, hge]
                                  clear hbad hgood hge Bad HR2 hlt
                                  go_wp2
                                  go_meet
                                  exact ⟨hi, c4, rfl, rfl, rfl, F.out, hlt4, HE2.out, HB2.out⟩
                              · have t45 := tneq z 45 45 rfl hz45
                                have F : Hid (ranges (x :: r) L.length = (ranges (z :: c3) (L.length + 1)).map (fun q => ((lo, lo) :: q.1, q.2))) := by
                                  apply Lib.hid
                                  rw [HR1.out, if_neg hz45]
                                clear hz45 HR1 Bad hcall
                                go_wp2
                                go_meet
                                exact ⟨lo, z :: c3, rfl, rfl, rfl, F.out, hlt3, HE1.out, HB1.out⟩
                            case rest =>
                              clear HR1 HE1 HB1 hcall Bad m0 hzx hlt3
                              obtain ⟨hi, c4, rfl, rfl, rfl, hR, hlt4, hE4, hB4⟩ := hcut
                              have HX := Lib.hid (fun (w' : World) (b : Bool) (h5 : b = (inR L R || decide (lo ≤ R ∧ R ≤ hi))) h3 h4 => cls_next (a := a) (w := w) (w' := w') HRg.out hR (show c4.length < (x :: r).length from hlt4) hLc h3 h4 h5)
                              have HE4 := Lib.hid hE4
                              have HB4 := Lib.hid hB4
                              clear HRg hR hE4 hB4
                              go_upto_region 31 with (fail)
                              go_cut [11] (fun m wx => m = .bool (inR L R || decide (lo ≤ R ∧ R ≤ hi)) ∧ wx = wc)
                              case first =>
                                clear HX HE4 HB4
                                generalize inR L R = m at *
                                cases m with
                                | true =>
                                  go_wp2
                                  go_meet
                                  exact ⟨by simp, rfl⟩
                                | false =>
                                  by_cases hlo : lo ≤ R
                                  · go_wp2
                                    go_meet
                                    exact ⟨congrArg Value.bool (by simp [hlo]), rfl⟩
                                  · go_wp2
                                    go_meet
                                    exact ⟨congrArg Value.bool (by simp [hlo]), rfl⟩
                              case rest =>
                                obtain ⟨rfl, rfl⟩ := hcut
                                go_wp2
                                go_roundw
                                case rel => exact HX.out _ _ rfl HE4.out HB4.out
                                case measure => simp [strLen, ByteArray.size]; omega
                        · have t93 := teq x 93 93 rfl hx
                          have hL1 : ((L.length : Nat) : Int) ≤ 0 := by omega
                          have hnone : getEsc (x :: r) = none := by rw [getEsc_of, if_neg (by simp), if_pos (by simp [hx])]
                          have hnone2 : ranges (x :: r) L.length = none := by rw [HRe.out, hnone]
                          clear hx hx93
                          go_wp2_with fail
                          refine hcall.out.mono ?_
                          rintro e w1 ⟨hb1, _, hbad⟩
                          obtain ⟨r', c2, rfl⟩ := hbad hnone
                          have HB1 := Lib.hid (HB.out.trans (hb1.mono HB.out.size))
                          clear hb1 hcall hbad
                          have F := Lib.hid (Bad.out w1 HB1.out hnone2)
                          clear hnone hnone2 Bad
                          go_wp2
                          go_ret3
                          exact F.out
      · have t91 := tneq b 91 91 rfl h91
        by_cases h63 : b = 63
        · have t63 := teq b 63 63 rfl h63
          as_aux_lemma =>
            have HP : Hid (chunkF c0 s0 = (parse true t).map fun ts => steps (Tm.any :: ts) so) := by
              apply Lib.hid
              rw [HC.out, h63, parse_any, Option.map_map]
              rfl
            clear HC h91 h63
            cases so with
            | none =>
              go_wp2
              go_roundw
              case rel => exact ⟨t, none, s, rfl, rfl, rfl, rfl, fun x h => (by cases h), by rw [HP.out]; rfl, by omega, hsl, HEr.out, HB.out⟩
              case measure => simp [strLen, ByteArray.size]
            | some x =>
              obtain rfl := HSo.out x rfl
              cases x with
              | nil =>
                go_wp2
                go_roundw
                case rel => exact ⟨t, none, [], rfl, rfl, rfl, rfl, fun x h => (by cases h), by rw [HP.out]; rfl, by omega, hsl, HEr.out, HB.out⟩
                case measure => simp [strLen, ByteArray.size]
              | cons y u =>
                have j0 := at0 y u
                have hsl' : u.length + 1 ≤ s0.length := hsl
                have HX := Lib.hid (ext_drop (y :: u) (dec (y :: u)).2)
                have hle : (dec (y :: u)).2 ≤ u.length + 1 := dec_le (y :: u)
                have hcall := Lib.hid (decodeL_call (y :: u) wr HEr.out.1)
                have hdl : (List.drop (dec (y :: u)).2 (y :: u)).length ≤ s0.length := by rw [List.length_drop]; simp at hsl ⊢; omega
                have HP2 : Hid (chunkF c0 s0 = (parse true t).map fun ts => steps ts (if y = 47 then none else some ((y :: u).drop (dec (y :: u)).2))) := by
                  apply Lib.hid
                  rw [HP.out]
                  rfl
                clear HP
                generalize (dec (y :: u)).1 = R at *
                generalize (dec (y :: u)).2 = K at *
                by_cases hy47 : y = 47
                · have t47 := teq y 47 47 rfl hy47
                  have HP3 : Hid (chunkF c0 s0 = (parse true t).map fun ts => steps ts none) := by
                    apply Lib.hid
                    rw [HP2.out, if_pos hy47]
                  clear hy47 HP2
                  go_wp2_with fail
                  refine hcall.out.mono ?_
                  rintro e w1 ⟨rfl, hb1⟩
                  have HE1 := Lib.hid (HEr.out.on hb1)
                  have HB1 := Lib.hid (HB.out.trans (hb1.mono HB.out.size))
                  clear hb1 hcall
                  go_wp2
                  go_roundw
                  case rel => exact ⟨t, none, (y :: u).drop K, rfl, congrArg Value.string HX.out, rfl, rfl, fun x h => (by cases h), HP3.out, by omega, hdl, HE1.out, HB1.out⟩
                  case measure => simp [strLen, ByteArray.size]
                · have t47 := tneq y 47 47 rfl hy47
                  have HP3 : Hid (chunkF c0 s0 = (parse true t).map fun ts => steps ts (some ((y :: u).drop K))) := by
                    apply Lib.hid
                    rw [HP2.out, if_neg hy47]
                  clear hy47 HP2
                  go_wp2_with fail
                  refine hcall.out.mono ?_
                  rintro e w1 ⟨rfl, hb1⟩
                  have HE1 := Lib.hid (HEr.out.on hb1)
                  have HB1 := Lib.hid (HB.out.trans (hb1.mono HB.out.size))
                  clear hb1 hcall
                  go_wp2
                  go_roundw
                  case rel => exact ⟨t, some ((y :: u).drop K), (y :: u).drop K, rfl, congrArg Value.string HX.out, rfl, rfl, fun x h => (by injection h with h; exact h.symm), HP3.out, by omega, hdl, HE1.out, HB1.out⟩
                  case measure => simp [strLen, ByteArray.size]
        · have t63 := tneq b 63 63 rfl h63
          by_cases h92 : b = 92
          · have t92 := teq b 92 92 rfl h92
            as_aux_lemma =>
              cases t with
              | nil =>
                have HP : Hid (chunkF c0 s0 = none) := by
                  apply Lib.hid
                  rw [HC.out, h92, parse_esc_nil]
                  rfl
                have hcell := HEr.out.2
                have fin : ∀ q, ChkPost a c0 s0 w (.returned (.tuple #[S [], .bool false, errV a])) (wr.drewN q) := fun q => ⟨below_drewN HB.out q, fun t h => (by rw [HP.out] at h; cases h), fun h => (by rw [HP.out] at h; cases h), fun _ => rfl⟩
                have Fin := Lib.hid fin
                clear HC h91 h63 h92 fin
                cases so with
                | none =>
                  go_wp2_with fail
                  go_quiet (fail)
                  go_wp2
                  go_ret3
                  exact Fin.out _
                | some x =>
                  obtain rfl := HSo.out x rfl
                  cases x with
                  | nil =>
                    go_wp2_with fail
                    go_quiet (fail)
                    go_wp2
                    go_ret3
                    exact Fin.out _
                  | cons y u =>
                    go_wp2_with fail
                    go_quiet (fail)
                    go_wp2
                    go_ret3
                    exact Fin.out _
              | cons z t =>
                have HP : Hid (chunkF c0 s0 = (parse true t).map fun ts => steps (Tm.lit z :: ts) so) := by
                  apply Lib.hid
                  rw [HC.out, h92, parse_esc, Option.map_map]
                  rfl
                have k0 := at0 z t
                have hz := ext_tail z t
                have hx2 : (⟨(b :: z :: t).toArray⟩ : ByteArray).extract 1 (t.length + 1 + 1) = ⟨(z :: t).toArray⟩ := ext_tail b (z :: t)
                have htl' : t.length + 2 ≤ c0.length := htl
                clear HC h91 h63 h92 hx
                cases so with
                | none =>
                  go_wp2
                  go_roundw
                  case rel => exact ⟨t, none, s, rfl, rfl, rfl, rfl, fun x h => (by cases h), by rw [HP.out]; rfl, by omega, hsl, HEr.out, HB.out⟩
                  case measure => simp [strLen, ByteArray.size]; omega
                | some x =>
                  obtain rfl := HSo.out x rfl
                  cases x with
                  | nil =>
                    go_wp2
                    go_roundw
                    case rel => exact ⟨t, none, [], rfl, rfl, rfl, rfl, fun x h => (by cases h), by rw [HP.out]; rfl, by omega, hsl, HEr.out, HB.out⟩
                    case measure => simp [strLen, ByteArray.size]; omega
                  | cons y u =>
                    have j0 := at0 y u
                    have hy := ext_tail y u
                    have hul : u.length ≤ s0.length := by simp at hsl; omega
                    by_cases hyb : z = y
                    · have tyb : ((z.toNat : Int) != (y.toNat : Int)) = false := by rw [hyb]; simp
                      have HP2 : Hid (chunkF c0 s0 = (parse true t).map fun ts => steps ts (some u)) := by
                        apply Lib.hid
                        rw [HP.out]
                        congr 1
                        funext ts
                        show steps ts (step (Tm.lit z) (y :: u)) = _
                        simp [step, hyb]
                      clear hyb HP
                      go_wp2_with fail
                      go_quiet (fail)
                      go_wp2
                      go_roundw
                      case rel => exact ⟨t, some u, u, rfl, rfl, rfl, rfl, fun x h => (by injection h with h; exact h.symm), HP2.out, by omega, hul, HEr.out, below_drewN HB.out _⟩
                      case measure => simp [strLen, ByteArray.size]; omega
                    · have tyb : ((z.toNat : Int) != (y.toNat : Int)) = true := by
                        rw [bne_iff_ne]
                        intro e
                        exact hyb (UInt8.toNat_inj.1 (by exact_mod_cast e))
                      have HP2 : Hid (chunkF c0 s0 = (parse true t).map fun ts => steps ts none) := by
                        apply Lib.hid
                        rw [HP.out]
                        congr 1
                        funext ts
                        show steps ts (step (Tm.lit z) (y :: u)) = _
                        have : y.toNat ≠ z.toNat := fun e => hyb (UInt8.toNat_inj.1 e.symm)
                        simp [step, this]
                      clear hyb HP
                      go_wp2_with fail
                      go_quiet (fail)
                      go_wp2
                      go_roundw
                      case rel => exact ⟨t, none, u, rfl, rfl, rfl, rfl, fun x h => (by cases h), HP2.out, by omega, hul, HEr.out, below_drewN HB.out _⟩
                      case measure => simp [strLen, ByteArray.size]; omega
          · have t92 := tneq b 92 92 rfl h92
            as_aux_lemma =>
              have HP : Hid (chunkF c0 s0 = (parse true t).map fun ts => steps (Tm.lit b :: ts) so) := by
                apply Lib.hid
                rw [HC.out, parse_lit true b t h91 h63 h92 (.inr rfl), Option.map_map]
                rfl
              clear HC h91 h63 h92
              cases so with
              | none =>
                go_wp2
                go_roundw
                case rel => exact ⟨t, none, s, rfl, rfl, rfl, rfl, fun x h => (by cases h), by rw [HP.out]; rfl, by omega, hsl, HEr.out, HB.out⟩
                case measure => simp [strLen, ByteArray.size]
              | some x =>
                obtain rfl := HSo.out x rfl
                cases x with
                | nil =>
                  go_wp2
                  go_roundw
                  case rel => exact ⟨t, none, [], rfl, rfl, rfl, rfl, fun x h => (by cases h), by rw [HP.out]; rfl, by omega, hsl, HEr.out, HB.out⟩
                  case measure => simp [strLen, ByteArray.size]
                | cons y u =>
                  have j0 := at0 y u
                  have hy := ext_tail y u
                  have hul : u.length ≤ s0.length := by simp at hsl; omega
                  by_cases hyb : b = y
                  · have tyb : ((b.toNat : Int) != (y.toNat : Int)) = false := by rw [hyb]; simp
                    have HP2 : Hid (chunkF c0 s0 = (parse true t).map fun ts => steps ts (some u)) := by
                      apply Lib.hid
                      rw [HP.out]
                      congr 1
                      funext ts
                      show steps ts (step (Tm.lit b) (y :: u)) = _
                      simp [step, hyb]
                    clear hyb HP
                    go_wp2_with fail
                    go_quiet (fail)
                    go_wp2
                    go_roundw
                    case rel => exact ⟨t, some u, u, rfl, rfl, rfl, rfl, fun x h => (by injection h with h; exact h.symm), HP2.out, by omega, hul, HEr.out, below_drewN HB.out _⟩
                    case measure => simp [strLen, ByteArray.size]
                  · have tyb : ((b.toNat : Int) != (y.toNat : Int)) = true := by
                      rw [bne_iff_ne]
                      intro e
                      exact hyb (UInt8.toNat_inj.1 (by exact_mod_cast e))
                    have HP2 : Hid (chunkF c0 s0 = (parse true t).map fun ts => steps ts none) := by
                      apply Lib.hid
                      rw [HP.out]
                      congr 1
                      funext ts
                      show steps ts (step (Tm.lit b) (y :: u)) = _
                      have : y.toNat ≠ b.toNat := fun e => hyb (UInt8.toNat_inj.1 e.symm)
                      simp [step, this]
                    clear hyb HP
                    go_wp2_with fail
                    go_quiet (fail)
                    go_wp2
                    go_roundw
                    case rel => exact ⟨t, none, u, rfl, rfl, rfl, rfl, fun x h => (by cases h), HP2.out, by omega, hul, HEr.out, below_drewN HB.out _⟩
                    case measure => simp [strLen, ByteArray.size]

end Go.Proofs.YtcoaoheakeodoaaDoor

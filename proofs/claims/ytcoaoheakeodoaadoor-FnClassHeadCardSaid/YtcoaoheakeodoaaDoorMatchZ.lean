/-
  path.Match: its contract. Conditions: none beyond those of each theorem.
-/
import Derived.Test.YtcoaoheakeodoaaDoorMatchY
import Derived.Test.YtcoaoheakeodoaaDoorMatchH
import Derived.Deep.LoopGhost
import Derived.Deep.DeepCutAuto
namespace Go.Proofs.YtcoaoheakeodoaaDoor
open Go.ChangeShapes Go.WideShapes Go.ChangeAt Go.RowKit

/-- A pattern's first chunk, under names. -/
theorem scan_gen (b : UInt8) (t : List UInt8) (w : World) (hl : (b :: t).length ≤ 1000000000) : ∃ (star : Bool) (c r : List UInt8),
    (Calls Tryd.prog 62 #[S (b :: t)] w fun e w' => e = .returned (.tuple #[.bool star, S c, S r]) ∧ Below w.heap.size w w') ∧ r.length ≤ t.length ∧ c.length ≤ (b :: t).length ∧ (c = [] → r = []) ∧
    remOK (b :: t) = ((parse true c).isSome && remOK r) ∧ ∀ s, matchF (b :: t) s = match parse true c with
      | none => none
      | some ts => match first star ts r.isEmpty s with
        | some u => matchF r u
        | none => if remOK r then some false else none := by
  have hlt := restOf_lt (b :: t) (by simp)
  refine ⟨_, _, _, scanChunk_call (b :: t) w hl, by simp at hlt; omega, chunkOf_le _, rest_nil _, remOK_cons _ (by simp), fun s => matchF_step _ s (by simp)⟩

/-- A chunk at a name, under names. -/
theorem chk_gen (a : Addr) (star : Bool) (c r s : List UInt8) (w : World) (hE : Env a w) (hc : c.length ≤ 1000000000) (hs : s.length ≤ 1000000000) :
    Calls Tryd.prog 64 #[S c, S s] w fun e w' => Below w.heap.size w w' ∧ ((parse true c = none ∧ e = .returned (.tuple #[S [], .bool false, errV a])) ∨
      ∃ (ts : List Tm) (u : List UInt8) (ok : Bool), parse true c = some ts ∧ e = .returned (.tuple #[S u, .bool ok, .nilIface]) ∧ u.length ≤ s.length ∧
        ((ok && (u.isEmpty || !r.isEmpty)) = true → first star ts r.isEmpty s = some u) ∧ ((ok && (u.isEmpty || !r.isEmpty)) = false → first star ts r.isEmpty s = if star then nxt ts r.isEmpty s else none)) := by
  refine (matchChunk_call a c s w hE hc hs).mono ?_
  rintro e w' ⟨hB, h1, h2, h3⟩
  refine ⟨hB, ?_⟩
  unfold chunkF at h1 h2 h3
  cases hp : parse true c with
  | none => exact .inl ⟨rfl, h3 (by rw [hp]; rfl)⟩
  | some ts =>
    rw [hp] at h1 h2
    cases hs : steps ts (some s) with
    | none =>
      refine .inr ⟨ts, [], false, rfl, h2 (by simp [hs]), Nat.zero_le _, fun h => by simp at h, fun _ => ?_⟩
      exact first_miss star ts _ s (fun t h => by rw [hs] at h; cases h)
    | some u =>
      refine .inr ⟨ts, u, true, rfl, h1 u (by simp [hs]), steps_le ts s u hs, fun h => ?_, fun h => ?_⟩
      · exact first_hit star ts _ s u hs (by cases h1 : u.isEmpty <;> cases h2 : r.isEmpty <;> simp_all)
      · exact first_miss star ts _ s (fun t h' => by
          rw [hs] at h'
          injection h' with h'
          subst h'
          cases h1 : u.isEmpty <;> cases h2 : r.isEmpty <;> simp_all)

def MatchPost (a : Addr) (p s : List UInt8) (w : World) (e : Ending) (w' : World) : Prop := Below w.heap.size w w' ∧
  (∀ m, matchF p s = some m → e = .returned (.tuple #[.bool m, .nilIface])) ∧ (matchF p s = none → e = .returned (.tuple #[.bool false, errV a]))

def OutRel (a : Addr) (w : World) (p0 s0 : List UInt8) (g : Nat) (v0 v1 : Value) (wr : World) : Prop :=
  ∃ p s : List UInt8, v0 = S p ∧ v1 = S s ∧ p.length = g ∧ matchF p0 s0 = matchF p s ∧ p.length ≤ p0.length ∧ s.length ≤ s0.length ∧ Env a wr ∧ Below w.heap.size w wr

def RemRel (a : Addr) (w : World) (r : List UInt8) (g : Nat) (v0 : Value) (wr : World) : Prop :=
  ∃ q : List UInt8, v0 = S q ∧ q.length = g ∧ remOK r = remOK q ∧ q.length ≤ r.length ∧ Env a wr ∧ Below w.heap.size w wr

def SeekRel (a : Addr) (w : World) (s : List UInt8) (N : Option (List UInt8)) (ts : List Tm) (last : Bool) (g : Nat) (v : Value) (wr : World) : Prop :=
  ∃ i : Nat, v = .int .i64 (i : Nat) ∧ i + g = s.length ∧ N = nxt ts last (s.drop i) ∧ Env a wr ∧ Below w.heap.size w wr

theorem star_end {star : Bool} {c : List UInt8} (h : true = (star && c.isEmpty)) : star = true ∧ c = [] := by
  cases star with
  | false => cases h
  | true =>
    cases c with
    | nil => exact ⟨rfl, rfl⟩
    | cons _ _ => cases h
theorem end_star {x : Option Bool} (s : List UInt8) (h : x = match parse true [] with
    | none => none
    | some ts => match first true ts ([] : List UInt8).isEmpty s with
      | some u => matchF [] u
      | none => if remOK [] then some false else none) : x = some (!s.contains 47) := by
  rw [h]
  show (match first true [] true s with
      | some u => matchF [] u
      | none => if remOK [] then some false else none) = _
  rw [first_star_nil]
  cases s.contains 47 <;> rfl

set_option maxRecDepth 100000 in
set_option maxHeartbeats 16000000 in
theorem match_call (a : Addr) (p0 s0 : List UInt8) (w : World) (hE : Env a w) (hp0 : p0.length ≤ 1000000000) (hs0 : s0.length ≤ 1000000000) :
    Calls Tryd.prog 45 #[S p0, S s0] w (MatchPost a p0 s0 w) := by
  have HE := Lib.hid hE
  clear hE
  go_enter Tryd.func45, Tryd.ntmps45
  go_wp2
  go_step3
  go_wp2
  go_step3
  go_wp2
  go_loopg [0, 1] p0.length (fun g v0 v1 wr => OutRel a w p0 s0 g v0 v1 wr)
  case atStart => exact ⟨p0, s0, rfl, rfl, rfl, rfl, Nat.le_refl _, Nat.le_refl _, HE.out, Below.refl _ _⟩
  case round =>
    clear HE
    obtain ⟨p, s, rfl, rfl, hpg, hM, hpl, hsl, hEr, hBr⟩ := hrel
    have HM := Lib.hid hM
    have HEr := Lib.hid hEr
    have HB := Lib.hid hBr
    clear hM hEr hBr
    cases p with
    | nil =>
      clear hpg
      have F : Hid (∀ w', Below w.heap.size w w' → MatchPost a p0 s0 w (.returned (.tuple #[.bool s.isEmpty, .nilIface])) w') := by
        intro w' hb
        refine ⟨hb, fun m h => ?_, fun h => ?_⟩
        · rw [HM.out, matchF_nil] at h
          injection h with h
          rw [h]
        · rw [HM.out, matchF_nil] at h
          cases h
      clear HM
      cases s with
      | nil =>
        go_wp2
        go_ret2
        exact F.out _ HB.out
      | cons y u =>
        go_wp2
        go_ret2
        exact F.out _ HB.out
    | cons b t =>
      have HG := Lib.hid hpg
      have htl : t.length + 1 ≤ p0.length := hpl
      obtain ⟨star, c, r, hsc, hrt, hct, hcr, hrem, hmf⟩ := scan_gen b t wr (by simp at hpl ⊢; omega)
      have hcall := Lib.hid hsc
      have HCR := Lib.hid hcr
      have hct' : c.length ≤ t.length + 1 := hct
      have HF : Hid (matchF p0 s0 = match parse true c with
          | none => none
          | some ts => match first star ts r.isEmpty s with
            | some u => matchF r u
            | none => if remOK r then some false else none) := by
        apply Lib.hid
        rw [HM.out, hmf]
      clear hsc hcr hrem hmf hpg HM hct
      go_wp2_with fail
      refine hcall.out.mono ?_
      rintro e w1 ⟨rfl, hb1⟩
      have HE1 := Lib.hid (HEr.out.on hb1)
      have HB1 := Lib.hid (HB.out.trans (hb1.mono HB.out.size))
      clear hb1 hcall HEr HB
      obtain ⟨q, hq⟩ : ∃ q : Bool, q = (star && c.isEmpty) := ⟨_, rfl⟩
      have HQ := Lib.hid hq
      clear hq
      go_upto_region 5 with (fail)
      go_cut [31] (fun v wx => v = .bool q ∧ wx = w1)
      case first =>
        clear HF HE1 HB1 HCR
        cases star with
        | false =>
          go_wp2
          go_meet
          exact ⟨by rw [HQ.out]; rfl, rfl⟩
        | true =>
          cases c with
          | nil =>
            go_wp2
            go_meet
            exact ⟨by rw [HQ.out]; rfl, rfl⟩
          | cons y c' =>
            go_wp2
            go_meet
            exact ⟨by rw [HQ.out]; rfl, rfl⟩
      case rest =>
        obtain ⟨rfl, rfl⟩ := hcut
        by_cases hq : q = true
        · obtain rfl : true = q := hq.symm
          obtain ⟨rfl, rfl⟩ := star_end HQ.out
          obtain rfl := HCR.out rfl
          have F : Hid (∀ w', Below w.heap.size w w' → MatchPost a p0 s0 w (.returned (.tuple #[.bool (!s.contains 47), .nilIface])) w') := by
            intro w' hb
            have hm := end_star s HF.out
            refine ⟨hb, fun m h => ?_, fun h => ?_⟩
            · rw [hm] at h
              injection h with h
              rw [h]
            · rw [hm] at h
              cases h
          clear HF HCR HQ hq HG
          have h56 := @run_callFunc_extern Tryd.prog 63 _ Extern.BytealgIndexByte.indexByte Tryd.func63 (by kernel_rfl) (by kernel_rfl) (by kernel_rfl) (by kernel_rfl)
          obtain ⟨I, hI, hix⟩ : ∃ I : Int, (I < 0 ↔ s.contains 47 = false) ∧ ∀ w' : World, (Extern.BytealgIndexByte.indexByte #[.string ⟨s.toArray⟩, .int .u8 47]).run Tryd.prog w' = .ok (.int .i64 I) w' := ⟨_, indexByte_neg s 47, fun w' => Lib.run_indexByteString ⟨s.toArray⟩ 47 w'⟩
          by_cases h47 : s.contains 47 = true
          · have hI0 : ¬ I < 0 := fun h => by rw [hI.1 h] at h47; cases h47
            have F2 := Lib.hid (fun w' hb => (by have := F.out w' hb; rw [h47] at this; exact this : MatchPost a p0 s0 w (.returned (.tuple #[.bool false, .nilIface])) w'))
            clear hI h47 F
            go_wp2
            go_ret2
            exact F2.out _ HB1.out
          · have h47' : s.contains 47 = false := by simpa using h47
            have hI0 : I < 0 := hI.2 h47'
            have F2 := Lib.hid (fun w' hb => (by have := F.out w' hb; rw [h47'] at this; exact this : MatchPost a p0 s0 w (.returned (.tuple #[.bool true, .nilIface])) w'))
            clear hI h47 h47' F
            go_wp2
            go_ret2
            exact F2.out _ HB1.out
        · obtain rfl : false = q := by cases q with | false => rfl | true => exact absurd rfl hq
          have hcall := Lib.hid (chk_gen a star c r s _ HE1.out (by omega) (by omega))
          clear hq HQ HCR
          go_wp2_with fail
          refine hcall.out.mono ?_
          rintro e w2 ⟨hb2, hcase⟩
          have HE2 := Lib.hid (HE1.out.on hb2)
          have HB2 := Lib.hid (HB1.out.trans (hb2.mono HB1.out.size))
          clear hb2 hcall HE1 HB1
          rcases hcase with ⟨hpn, rfl⟩ | ⟨ts, u, ok, hps, rfl, hus, hhit, hmiss⟩
          · have F : Hid (MatchPost a p0 s0 w (.returned (.tuple #[.bool false, errV a])) w2) := by
              have hm : matchF p0 s0 = none := by rw [HF.out, hpn]
              exact ⟨HB2.out, fun m h => (by rw [hm] at h; cases h), fun _ => rfl⟩
            clear HF hpn HG
            go_wp2
            go_ret2
            exact F.out
          · have HF2 : Hid (matchF p0 s0 = match first star ts r.isEmpty s with
                | some u => matchF r u
                | none => if remOK r then some false else none) := by
              apply Lib.hid
              rw [HF.out, hps]
            have HPs := Lib.hid hps
            have HH := Lib.hid hhit
            have HMi := Lib.hid hmiss
            clear HF hps hhit hmiss
            obtain ⟨k, hk⟩ : ∃ k : Bool, k = (ok && (u.isEmpty || !r.isEmpty)) := ⟨_, rfl⟩
            have HK := Lib.hid hk
            clear hk
            go_upto_region 8 with (fail)
            go_cut [52] (fun v wx => v = .bool k ∧ wx = w2)
            case first =>
              clear HF2 HPs HH HMi HE2 HB2
              cases ok with
              | false =>
                go_wp2
                go_meet
                exact ⟨by rw [HK.out]; rfl, rfl⟩
              | true =>
                cases u with
                | nil =>
                  go_wp2
                  go_meet
                  exact ⟨by rw [HK.out]; rfl, rfl⟩
                | cons y u' =>
                  cases r with
                  | nil =>
                    go_wp2
                    go_meet
                    exact ⟨by rw [HK.out]; rfl, rfl⟩
                  | cons z r' =>
                    go_wp2
                    go_meet
                    exact ⟨by rw [HK.out]; rfl, rfl⟩
            case rest =>
              obtain ⟨rfl, rfl⟩ := hcut
              by_cases hk : k = true
              · obtain rfl : true = k := hk.symm
                have HN : Hid (matchF p0 s0 = matchF r u) := by
                  apply Lib.hid
                  rw [HF2.out, HH.out HK.out.symm]
                clear hk HF2 HPs HH HMi HK
                go_wp2
                go_roundg r.length
                case measure => rw [← HG.out]; exact Nat.lt_succ_of_le hrt
                case rel => exact ⟨r, u, rfl, rfl, rfl, HN.out, by omega, by omega, HE2.out, HB2.out⟩
              · obtain rfl : false = k := by cases k with | false => rfl | true => exact absurd rfl hk
                have HS : Hid (first star ts r.isEmpty s = if star then nxt ts r.isEmpty s else none) := HMi.out HK.out.symm
                clear hk HH HMi HK
                go_upto_if 57 with (fail)
                go_cut [1] (fun v wx => first star ts r.isEmpty s = none ∧ Env a wx ∧ Below w.heap.size w wx)
                case first =>
                  cases star with
                  | false =>
                    go_wp2
                    go_meet
                    exact ⟨by rw [HS.out]; rfl, HE2.out, HB2.out⟩
                  | true =>
                    have HS2 : Hid (first true ts r.isEmpty s = nxt ts r.isEmpty s) := HS.out
                    clear HS
                    go_wp2
                    have hsz : s.length ≤ 1000000000 := by omega
                    go_loopg [1, 11] s.length (fun g v1 v wr => v1 = S s ∧ SeekRel a w s (first true ts r.isEmpty s) ts r.isEmpty g v wr)
                    case atStart => exact ⟨rfl, 0, rfl, by omega, HS2.out, HE2.out, HB2.out⟩
                    case round =>
                      clear HS2 HE2 HB2
                      obtain ⟨rfl, i, rfl, hig, hN, hEi, hBi⟩ := hrel
                      have HN := Lib.hid hN
                      have HEi := Lib.hid hEi
                      have HBi := Lib.hid hBi
                      clear hN hEi hBi
                      by_cases hi : i < s.length
                      · obtain ⟨y, hy⟩ : ∃ y, s[i]? = some y := ⟨s[i], List.getElem?_eq_getElem hi⟩
                        have iK := atK s i y hy
                        have HD := Lib.hid (drop_at hy)
                        clear hy
                        by_cases h47 : y = 47
                        · have t47 : ((y.toNat : Int) != 47) = false := by rw [h47]; rfl
                          have HX : Hid (first true ts r.isEmpty s = none) := by
                            apply Lib.hid
                            rw [HN.out, HD.out, h47]
                            rfl
                          clear h47 HN HD
                          go_wp2
                          go_meet
                          exact ⟨HX.out, HEi.out, HBi.out⟩
                        · have t47 : ((y.toNat : Int) != 47) = true := by
                            rw [bne_iff_ne]
                            intro e
                            exact h47 (UInt8.toNat_inj.1 (by exact_mod_cast e))
                          have HX : Hid (first true ts r.isEmpty s = first true ts r.isEmpty (s.drop (i + 1))) := by
                            apply Lib.hid
                            rw [HN.out, HD.out]
                            show (if y ≠ 47 then _ else _) = _
                            rw [if_pos h47]
                          have hcall := Lib.hid (chk_gen a true c r (s.drop (i + 1)) _ HEi.out (by omega) (by rw [List.length_drop]; omega))
                          have hx := ext_drop s (i + 1)
                          have hgg : Hid (gk = s.length - i) := by apply Lib.hid; omega
                          clear h47 HN HD hig
                          go_wp2_with fail
                          refine hcall.out.mono ?_
                          rintro e w3 ⟨hb3, hcase⟩
                          have HE3 := Lib.hid (HEi.out.on hb3)
                          have HB3 := Lib.hid (HBi.out.trans (hb3.mono HBi.out.size))
                          clear hb3 hcall HEi HBi
                          rcases hcase with ⟨hpn, rfl⟩ | ⟨ts', v, ok2, hps, rfl, hvs, hhit, hmiss⟩
                          · have := HPs.out
                            rw [hpn] at this
                            cases this
                          · obtain rfl : ts = ts' := by
                              have := HPs.out.symm.trans hps
                              injection this
                            have HH := Lib.hid hhit
                            have HMi := Lib.hid hmiss
                            have hvl : v.length ≤ s0.length := by rw [List.length_drop] at hvs; omega
                            clear hps hhit hmiss hvs
                            cases ok2 with
                            | false =>
                              have HN : Hid (first true ts r.isEmpty s = nxt ts r.isEmpty (s.drop (i + 1))) := by
                                apply Lib.hid
                                rw [HX.out]
                                exact HMi.out rfl
                              clear HH HMi HX
                              go_wp2
                              go_roundg (s.length - (i + 1))
                              case measure => rw [hgg.out]; omega
                              case rel => exact ⟨rfl, i + 1, by go_num, by omega, HN.out, HE3.out, HB3.out⟩
                            | true =>
                              cases r with
                              | nil =>
                                cases v with
                                | nil =>
                                  have HN : Hid (matchF p0 s0 = matchF [] []) := by
                                    apply Lib.hid
                                    rw [HF2.out, HX.out, HH.out rfl]
                                  clear HH HMi HX
                                  go_wp2
                                  go_roundg 0
                                  case measure => rw [← HG.out]; exact Nat.succ_pos _
                                  case rel => exact ⟨[], [], rfl, rfl, rfl, HN.out, by simp, by simp, HE3.out, HB3.out⟩
                                | cons z v' =>
                                  have HN : Hid (first true ts true s = nxt ts true (s.drop (i + 1))) := by
                                    apply Lib.hid
                                    exact HX.out.trans (HMi.out rfl)
                                  clear HH HMi HX
                                  go_wp2
                                  go_roundg (s.length - (i + 1))
                                  case measure => rw [hgg.out]; omega
                                  case rel => exact ⟨rfl, i + 1, by go_num, by omega, HN.out, HE3.out, HB3.out⟩
                              | cons x r' =>
                                have HN : Hid (matchF p0 s0 = matchF (x :: r') v) := by
                                  apply Lib.hid
                                  rw [HF2.out, HX.out, HH.out (by simp)]
                                clear HH HMi HX
                                go_wp2
                                go_roundg (x :: r').length
                                case measure => rw [← HG.out]; exact Nat.lt_succ_of_le hrt
                                case rel => exact ⟨x :: r', v, rfl, rfl, rfl, HN.out, by simp at hrt ⊢; omega, hvl, HE3.out, HB3.out⟩
                      · have HX : Hid (first true ts r.isEmpty s = none) := by
                          apply Lib.hid
                          rw [HN.out, List.drop_eq_nil_of_le (by omega)]
                          rfl
                        clear HN
                        go_wp2
                        go_meet
                        exact ⟨HX.out, HEi.out, HBi.out⟩
                case rest =>
                  obtain ⟨hfn, hE3, hB3⟩ := hcut
                  have HE3 := Lib.hid hE3
                  have HB3 := Lib.hid hB3
                  have HF4 : Hid (matchF p0 s0 = if remOK r then some false else none) := by
                    apply Lib.hid
                    rw [HF2.out, hfn]
                  clear hfn hE3 hB3 HF2 HS HPs HE2 HB2
                  go_wp2
                  go_loopg [0, 7] r.length (fun g v0 v7 wr => RemRel a w r g v0 wr)
                  case atStart => exact ⟨r, rfl, rfl, rfl, Nat.le_refl _, HE3.out, HB3.out⟩
                  case round =>
                    clear HE3 HB3
                    obtain ⟨q, rfl, hqg, hrem, hql, hEq, hBq⟩ := hrel
                    have HRm := Lib.hid hrem
                    have HEq := Lib.hid hEq
                    have HBq := Lib.hid hBq
                    have HQg := Lib.hid hqg
                    clear hrem hEq hBq hqg
                    cases q with
                    | nil =>
                      have F : Hid (∀ w', Below w.heap.size w w' → MatchPost a p0 s0 w (.returned (.tuple #[.bool false, .nilIface])) w') := by
                        intro w' hb
                        have hm : matchF p0 s0 = some false := by rw [HF4.out, HRm.out]; rfl
                        refine ⟨hb, fun m h => ?_, fun h => ?_⟩
                        · rw [hm] at h
                          injection h with h
                          rw [h]
                        · rw [hm] at h
                          cases h
                      clear HF4 HRm HG HQg
                      go_wp2
                      go_ret2
                      exact F.out _ HBq.out
                    | cons x q' =>
                      have hql' : q'.length + 1 ≤ r.length := hql
                      obtain ⟨star2, c2, r2, hsc, hrt2, hct2, _, hrem2, _⟩ := scan_gen x q' wr (by simp at hql ⊢; omega)
                      have hcall := Lib.hid hsc
                      have hct3 : c2.length ≤ q'.length + 1 := hct2
                      have HR2 : Hid (remOK r = ((parse true c2).isSome && remOK r2)) := by
                        apply Lib.hid
                        rw [HRm.out, hrem2]
                      clear hsc hrem2 hct2 HRm
                      go_wp2_with fail
                      refine hcall.out.mono ?_
                      rintro e w4 ⟨rfl, hb4⟩
                      have HE4 := Lib.hid (HEq.out.on hb4)
                      have HB4 := Lib.hid (HBq.out.trans (hb4.mono HBq.out.size))
                      clear hb4 hcall HEq HBq
                      have hcall := Lib.hid (chk_gen a false c2 [] [] w4 HE4.out (by omega) (by simp))
                      go_wp2_with fail
                      refine hcall.out.mono ?_
                      rintro e w5 ⟨hb5, hcase⟩
                      have HE5 := Lib.hid (HE4.out.on hb5)
                      have HB5 := Lib.hid (HB4.out.trans (hb5.mono HB4.out.size))
                      clear hb5 hcall HE4 HB4
                      rcases hcase with ⟨hpn, rfl⟩ | ⟨ts', v, ok2, hps, rfl, _, _, _⟩
                      · have F : Hid (MatchPost a p0 s0 w (.returned (.tuple #[.bool false, errV a])) w5) := by
                          have hm : matchF p0 s0 = none := by rw [HF4.out, HR2.out, hpn]; rfl
                          exact ⟨HB5.out, fun m h => (by rw [hm] at h; cases h), fun _ => rfl⟩
                        clear HF4 HR2 hpn HG HQg
                        go_wp2
                        go_ret2
                        exact F.out
                      · have HR3 : Hid (remOK r = remOK r2) := by
                          apply Lib.hid
                          rw [HR2.out, hps]
                          rfl
                        clear HR2 hps
                        go_wp2
                        go_roundg r2.length
                        case measure => rw [← HQg.out]; exact Nat.lt_succ_of_le hrt2
                        case rel => exact ⟨r2, rfl, rfl, HR3.out, by omega, HE5.out, HB5.out⟩

end Go.Proofs.YtcoaoheakeodoaaDoor

/-
  The wrap of a row that lists variables, the world's shape kept: what strings.Index asks of internal/bytealg.MaxLen. Conditions: none beyond those of each theorem.
-/
import Derived.Test.YtlekeaganaliiaaDoorLaid
import Derived.HandedShaped
import Derived.Shelf.Vars
namespace Go.Proofs.YtlekeaganaliiaaDoor
open Go.ChangeShapes Go.WideShapes Go.ChangeAt Go.RowKit

theorem handed_shaped {H : Type} {enc : TypeId × Value → H} {a : Assume} {C : Checked} {os : Os} {f : FuncId} {fn : Func} {s : ChangeSpec} {conds : List PathCond} {apart fresh handsOn again : Bool} {X : World → Array Value → Prop}
    (hX : ∀ (w w' : World) (args : Array Value), w.heap = w'.heap → X w args → X w' args)
    (own : ownKnob C.prog.godebug = none) (started : os.Started) (noInit : C.prog.inits.idxOf? f = none) (hfn : C.prog.funcs[f]? = some fn)
    (witness : ∃ (w : World) (tape : Tape) (i : Input), w.os = os ∧ (w.forCall tape i).Shaped C.prog ∧ i.vars = [] ∧ Input.okWide C.prog (w.forCall tape i) .any w.heap.size f i ∧
      ((s.pre enc C.prog fn conds apart (w.forCall tape i).memory i.args ∧ X (w.forCall tape i).memory i.args) ∧ sizedMet enc C.prog fn (OpenSpec.ofChange s) apart (w.forCall tape i).memory i.args) ∧ a.holds C.prog (lone (Frame.enter C.prog f i.args .normal) [] (w.forCall tape i)))
    (contract : ∀ (W : World) (base : Nat) (args : Array Value) (ds gs : List (DataW H)) (before : List MemPlace),
      (∀ (j : Nat) t v, fn.params[j]? = some t → args[j]? = some v → Value.okWide C.prog W .any base t v) →
      DataW.Whole enc C.prog fn.params.toList s.vars apart W args.toList ds gs before →
      conds.all (PathCond.test C.prog ⟨fn.params.toList, ds, s.plain.varTypes C.prog, gs⟩) = true →
      (DataW.weightsEach C.prog (fn.params.toList ++ s.plain.varTypes C.prog) (ds ++ gs)).all (· ≤ reachBytes) = true → X W args → W.ShapedOpen C.prog →
      a.holds C.prog (lone (Frame.enter C.prog f args .normal) [] W) →
      Calls C.prog f args W fun e W' => ∃ v, e = .returned v ∧ s.post enc C.prog fn apart fresh handsOn again W args v W') :
    ReturnsInHanded a C os f .any (fun w args => (s.pre enc C.prog fn conds apart w args ∧ X w args) ∧ sizedMet enc C.prog fn (OpenSpec.ofChange s) apart w args) (s.post enc C.prog fn apart fresh handsOn again) := by
  refine returnsInHanded_of_calls own started noInit witness ?_
  intro w tape i _ hsh _ hok hpre hholds
  obtain ⟨_, _, _, fn', hfn', _, _, _, _, hval⟩ := hok
  have e : fn' = fn := Option.some.inj (hfn'.symm.trans hfn)
  subst e
  obtain ⟨⟨⟨ds, gs, before, hw, hc⟩, hx⟩, hz⟩ := hpre
  have hw' := DataW.Whole.of_heap (w' := w.forCall tape i) (by rfl) hw
  refine (contract (w.forCall tape i) w.heap.size i.args ds gs before hval hw' hc (hz.weights hw) (hX _ _ _ (by rfl) hx) hsh hholds).mono fun e W' ⟨v, he, hp⟩ => ?_
  subst he
  exact ChangeSpec.post_blind hp

/-- The variable holds some number. -/
def MaxAt (w : World) : Prop := ∃ m, w.cell? ⟨3, 0, none⟩ = some (.int .i64 m)
theorem max_of {w : World} (h : w.ShapedOpen Tryd.prog) : MaxAt w :=
  cell_of_shapedOpen_int (t := 3) (zero := #[.int .i64 0]) h (of_decide_eq_true (by kernel_rfl)) (by kernel_rfl) rfl (by kernel_rfl) (by kernel_rfl) Tryd.underlying3
theorem MaxAt.on {w w' : World} (h : MaxAt w) (hb : Below w.heap.size w w') : MaxAt w' := by
  obtain ⟨m, hm⟩ := h
  have hlt : 3 < w.heap.size := by
    rcases Nat.lt_or_ge 3 w.heap.size with h | h
    · exact h
    · simp [World.cell?, Array.getElem?_eq_none h] at hm
  exact ⟨m, (hb.cell (p := ⟨3, 0, none⟩) hlt).trans hm⟩

theorem containsB (P Q : ByteArray) (p q : Bs) (w : World) (hM : MaxAt w) (hP : P.data.toList = p) (hQ : Q.data.toList = q) (hl : p.length ≤ 100000000) :
    Calls Tryd.prog 19 #[.string P, .string Q] w fun e w' => e = .returned (.bool (Lib.contains p q)) ∧ Below w.heap.size w w' := by
  subst hP hQ
  obtain ⟨m, hm⟩ := hM
  refine (Tryd.strings_Contains P Q m w (by rw [Lib.size_eq]; omega) hm).mono ?_
  rintro e w' ⟨rfl, rfl⟩
  exact ⟨rfl, Below.refl _ _⟩
theorem indexB (P Q : ByteArray) (p q : Bs) (w : World) (hM : MaxAt w) (hP : P.data.toList = p) (hQ : Q.data.toList = q) (hl : p.length ≤ 100000000) :
    Calls Tryd.prog 53 #[.string P, .string Q] w fun e w' => e = .returned (.int .i64 (Lib.index p q)) ∧ w' = w := by
  subst hP hQ
  obtain ⟨m, hm⟩ := hM
  exact Tryd.strings_Index P Q m w (by rw [Lib.size_eq]; omega) hm

end Go.Proofs.YtlekeaganaliiaaDoor

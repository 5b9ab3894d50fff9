/-
  What both rows of the seat want: the wrap with the listed variable and the world's shape, the handle's cell, MaxLen's cell, a world that meets the condition.
-/
import Derived.Test.Qxb6609358aDoorRows
import Derived.Test.Qxb6609358aDoorQ
import Derived.ChangeSame
import Derived.ChangeVars
import Derived.JoinedOf
import Derived.RowKit
import Derived.RowKitTokens
import Derived.LaidLaws
import Derived.LaidHandle
import Derived.Stop.Joined
import Derived.HandedShaped
import Derived.Shelf.Vars
import Derived.SliceStrings
import Derived.Carry
namespace Go.Proofs.Qxb6609358aDoor.R
open Go.ChangeShapes Go.WideShapes Go.ChangeAt Go.RowKit
open Go.ChangeMaps (open_string shut_string)
set_option linter.unusedVariables false

/-- The wrap with a condition on the world, the world's shape kept. -/
theorem wrap {H : Type} {enc : TypeId × Value → H} {a : Assume} {C : Checked} {os : Os} {f : FuncId} {fn : Func} {s : ChangeSpec} {conds : List PathCond} {apart fresh handsOn again : Bool} {X : World → Array Value → Prop}
    (hX : ∀ (w w' : World) (args : Array Value), w.heap = w'.heap → X w args → X w' args)
    (own : ownKnob C.prog.godebug = none) (started : os.Started) (noInit : C.prog.inits.idxOf? f = none) (hfn : C.prog.funcs[f]? = some fn)
    (witness : ∃ (w : World) (tape : Tape) (i : Input), w.os = os ∧ (w.forCall tape i).Shaped C.prog ∧ i.vars = [] ∧ Input.okWide C.prog (w.forCall tape i) .any w.heap.size f i ∧
      ((s.pre enc C.prog fn conds apart (w.forCall tape i).memory i.args ∧ X (w.forCall tape i).memory i.args) ∧ sizedMet enc C.prog fn (OpenSpec.ofChange s) apart (w.forCall tape i).memory i.args) ∧ a.holds C.prog (lone (Frame.enter C.prog f i.args .normal) [] (w.forCall tape i)))
    (contract : ∀ (W : World) (base : Nat) (args : Array Value) (ds gs : List (DataW H)) (before : List MemPlace),
      (∀ (j : Nat) t v, fn.params[j]? = some t → args[j]? = some v → Value.okWide C.prog W .any base t v) →
      DataW.Whole enc C.prog fn.params.toList s.vars apart W args.toList ds gs before →
      X W args → W.ShapedOpen C.prog →
      Calls C.prog f args W fun e W' => ∃ v, e = .returned v ∧ s.post enc C.prog fn apart fresh handsOn again W args v W') :
    ReturnsInHanded a C os f .any (fun w args => (s.pre enc C.prog fn conds apart w args ∧ X w args) ∧ sizedMet enc C.prog fn (OpenSpec.ofChange s) apart w args) (s.post enc C.prog fn apart fresh handsOn again) := by
  refine returnsInHanded_of_calls own started noInit witness ?_
  intro w tape i _ hsh _ hok hpre hholds
  obtain ⟨_, _, _, fn', hfn', _, _, _, _, hval⟩ := hok
  have e : fn' = fn := Option.some.inj (hfn'.symm.trans hfn)
  subst e
  obtain ⟨⟨⟨ds, gs, before, hw, hc⟩, hx⟩, hz⟩ := hpre
  have hw' := DataW.Whole.of_heap (w' := w.forCall tape i) (by rfl) hw
  refine (contract (w.forCall tape i) w.heap.size i.args ds gs before hval hw' (hX _ _ _ (by rfl) hx) hsh).mono fun e W' ⟨v, he, hp⟩ => ?_
  subst he
  exact ChangeSpec.post_blind hp

theorem own : ownKnob Tryd.prog.godebug = none := by kernel_rfl
theorem laidOut : laidOutB Tryd.prog = true := by kernel_rfl
theorem et : Tryd.prog.globalNamed "errors.errorType" = some 0 := by kernel_rfl
theorem rt : (Tryd.prog.cutTypes.find? (·.1 == "internal/reflectlite.rtype")).map (·.2) = some 106 := by kernel_rfl
theorem oneRow : ((List.range 167).filter fun t => Tryd.prog.rowNamed t [101, 114, 114, 111, 114]) = [33] := by kernel_rfl
theorem size : Tryd.prog.types.size = 167 := by kernel_rfl

/-- The list that both rows bear. -/
def laid : List (String × DataW Unit) := [("errors.errorType", Rows.laid_errors_errorType)]

/-- The condition gives the variable's one cell. -/
theorem handle_of_laid {W : World} (h : laidMetH Tryd.prog laid W) : A.ErrT W := by
  have h' : laidMet Tryd.prog [] W ∧ handlesMet Tryd.prog laid W := h
  obtain ⟨name, u, ty, e1, e2, e3, e4, e5⟩ := h'.2 _ (List.mem_singleton.2 rfl)
  have en : name = [101, 114, 114, 111, 114] := (Option.some.inj e1).symm
  subst en
  obtain rfl := Option.some.inj (rt.symm.trans e2)
  have hm : ty ∈ (List.range 167).filter fun t => Tryd.prog.rowNamed t [101, 114, 114, 111, 114] := List.mem_filter.2 ⟨List.mem_range.2 (by rw [← size]; exact e3), e4⟩
  rw [oneRow] at hm
  obtain rfl := List.mem_singleton.1 hm
  have hh : typeHandle Tryd.prog 33 = .pointer (some ⟨5, 33, none⟩) := by kernel_rfl
  rw [hh] at e5
  simpa using World.var?_cell et e5 0

/-- MaxLen holds some int. -/
theorem maxLen_cell {W : World} (h : W.ShapedOpen Tryd.prog) : ∃ m, W.cell? ⟨4, 0, none⟩ = some (.int .i64 m) :=
  cell_of_shapedOpen_int (t := 3) (zero := #[.int .i64 0]) h (of_decide_eq_true (by kernel_rfl)) (by kernel_rfl) rfl (by kernel_rfl) (by kernel_rfl) Tryd.underlying3

/-- A world that meets the condition. -/
noncomputable def laidWorld (os : Os) : World :=
  let w0 := World.holding Tryd.prog os ⟨#[], #[], []⟩
  { w0 with heap := w0.heap.modify 0 fun
      | .cells _ t frozen => .cells #[.iface 106 (.agg #[.pointer (some ⟨5, 33, none⟩)])] t frozen
      | o => o }
theorem laidWorld_met (os : Os) (args : Array Value) : laidMetH Tryd.prog laid ((laidWorld os).forCall (fun _ _ => 0) ⟨#[], args, []⟩).memory :=
  laidMetH_of_parts (laidMet_nil _ _) (by kernel_rfl)

/-- A slice of strings, opened. -/
theorem strings_open {H : Type} {enc : TypeId × Value → H} {W : World} {a : Option Addr} {len cap : Nat} {d : DataW H} {p : List MemPlace}
    (h : ∃ fuel, DataW.trod enc Tryd.prog W 0 (fun _ => true) true fuel 44 [.slice a len cap] = some (d, p)) :
    (a = none ∧ len = 0 ∧ cap = 0) ∨ ∃ (ad : Addr) (f : Nat → ByteArray), a = some ad ∧ len ≤ maxLen ∧ (∀ i, i < len → (f i).size ≤ maxLen) ∧ (∀ i, i < len → W.cell? (ad.add i) = some (.string (f i))) ∧ A.ArrIs W (some ad) len f := by
  obtain ⟨fuel, hf⟩ := h
  rcases open_strings Tryd.underlying44 Tryd.underlying9 (by kernel_rfl) hf with ⟨hcs, _⟩ | ⟨x, l, c, ss, hcs, _, hl, hm, hz, _, hcell, hwz⟩
  · simp at hcs
    exact .inl ⟨hcs.1, hcs.2.1, hcs.2.2⟩
  · simp at hcs
    obtain ⟨rfl, rfl, rfl⟩ := hcs
    have hz' : ss.length = cap := by simpa using hz
    have hc : ∀ i, i < len → W.cell? (x.add i) = some (.string (ss.getD i ByteArray.empty)) := fun i hi => hcell i (by omega)
    refine .inr ⟨x, fun i => ss.getD i ByteArray.empty, rfl, by omega, fun i hi => ?_, hc, ?_⟩
    · refine hwz _ ?_
      show ss.getD i ByteArray.empty ∈ ss
      rw [List.getD_eq_getElem?_getD, List.getElem?_eq_getElem (by omega)]
      exact List.getElem_mem _
    · by_cases h0 : len = 0
      · exact .inl ⟨trivial, h0⟩
      · obtain ⟨b, o, sel⟩ := x
        obtain rfl : sel = none := by simpa [Addr.add] using World.cell?_spot (hc 0 (by omega))
        exact .inr ⟨b, o, rfl, fun i hi => by have := hc i hi; rwa [Go.WideShapes.add_plain] at this⟩
end Go.Proofs.Qxb6609358aDoor.R

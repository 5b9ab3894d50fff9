import Derived.Test.Qxb6609358aDoorT
import Derived.Test.Qxb6609358aDoorK
import Derived.Deep.RegionLaw
namespace Go.Proofs.Qxb6609358aDoor.A
open Go.ChangeShapes Go.WideShapes Go.ChangeAt Go.RowKit P T
set_option linter.unusedVariables false
attribute [local go_sem] a9_9 a9_79 a9_88 a88_9 a88_88 aN_9 aN_79 aN_88

abbrev kMem : ByteArray := { data := #[110, 111, 32, 115, 117, 99, 104, 32, 109, 101, 109, 98, 101, 114] }

/-- The program's map that holds the datum D, in block b. -/
abbrev Own (w : World) (b n : Nat) (D : DataW Unit) : Prop := w.ownsMap Tryd.prog 9 R b n D
theorem keyS (s : ByteArray) (h : s.size ≤ 9223372036854775807) : Go.keyOf Tryd.prog 9 (.string s) = some (.string (L s)) := by
  unfold Go.keyOf mapKey
  rw [Tryd.underlying9]
  exact if_pos h
theorem Own.below {w w' : World} {b n : Nat} {D : DataW Unit} (h : Own w b n D) (hb : Below w.heap.size w w') : Own w' b n D := by
  obtain ⟨es, clock, h1, h2⟩ := h
  exact ⟨es, clock, (hb.block b (Array.getElem?_eq_some_iff.1 h1).1).trans h1, h2⟩
theorem zero20 (w : World) : (zeroValue 20).run Tryd.prog w = .ok .nilIface w := by kernel_rfl

set_option maxRecDepth 100000 in
set_option maxHeartbeats 2000000 in
/-- selectIn on an object that has the member. -/
theorem selm_ok (b n : Nat) (D : DataW Unit) (s u : ByteArray) (w : World) (hs : s.size ≤ 9223372036854775807) (ho : Own w b n D) (hh : Maps.has D (.string (L s)) = true) (ha : ∀ z, D.atKey (.string (L s)) z = .lit (.string (L u))) :
    Calls Tryd.prog 60 #[.iface 88 (.map (some b)), .string s] w fun e w' => e = .returned (.tuple #[.iface 9 (.string u), .string kNone]) ∧ w' = w := by
  have HA : Hid _ := ha
  have HH : Hid _ := hh
  clear ha hh
  go_enter Tryd.func60, Tryd.ntmps60
  go_wp2_with (at_lookup; refine wpList_lookup_own_ok _ rfl _ _ 88 rfl 9 20 (Maps.string_keyed Tryd.underlying9) Tryd.underlying88 R (zero20 _) .nil [] rfl b n D rfl ho _ _ rfl (keyS s hs) ?_; intro v ps hv; rw [HA.out] at hv; have hvv : v = .iface 9 (.string u) := (R_inv hv).trans (by rw [show (⟨(L u).toArray⟩ : ByteArray) = u from mk_L u]); subst hvv; rw [HH.out]; clear hv)
  refine bodyPost_ret (v := .tuple #[.iface 9 (.string u), .string kNone]) (by simp [results, Tryd.results60, go_sem]) rfl ?_
  exact ⟨rfl, rfl⟩

set_option maxRecDepth 100000 in
set_option maxHeartbeats 2000000 in
/-- selectIn on an object that lacks the member. -/
theorem selm_no (b n : Nat) (D : DataW Unit) (s : ByteArray) (w : World) (hs : s.size ≤ 9223372036854775807) (ho : Own w b n D) (hh : Maps.has D (.string (L s)) = false) :
    Calls Tryd.prog 60 #[.iface 88 (.map (some b)), .string s] w fun e w' => e = .returned (.tuple #[.nilIface, .string kMem]) ∧ w' = w := by
  have HH : Hid (Maps.has D (.string (L s)) = false) := hh
  clear hh
  go_enter Tryd.func60, Tryd.ntmps60
  go_wp2_with (at_lookup; refine wpList_lookup_own_ok _ rfl _ _ 88 rfl 9 20 (Maps.string_keyed Tryd.underlying9) Tryd.underlying88 R (zero20 _) .nil [] rfl b n D rfl ho _ _ rfl (keyS s hs) ?_; intro v ps hv; rw [HH.out]; clear hv)
  refine bodyPost_ret (v := .tuple #[.nilIface, .string kMem]) (by simp [results, Tryd.results60, go_sem]) rfl ?_
  exact ⟨rfl, rfl⟩

/-- 'm[k] = v' as one step of a region that draws. -/
theorem step_mapUpdate {H : Type} {P : Program} {ops : Array Oper} {o : Oper} {a : Act} {w : World} {K : Act → World → Prop} {Q : Exit → Act → World → Prop} {E : Prop}
    (hg : o.guard = none) (m x v : Operand) (t : TypeId) (hop : o.op = Op.mapUpdate t m x v)
    (k e : TypeId) (Kd : Maps.Keyed P k) (ht : P.underlying t = some (.map k e)) (Rr : Value → Option (DataW H × List MemPlace)) (b n : Nat) (D : DataW H)
    (hm : a.eval m = .map (some b)) (hown : w.ownsMap P k Rr b n D) (hn : n < maxLen) (key val : Value) (kl : Lit) (hx : a.eval x = key) (hv : a.eval v = val) (hkey : Go.keyOf P k key = some kl)
    (d : DataW H) (ps : List MemPlace) (hval : Rr val = some (d, ps))
    (hK : ∀ w', w'.ownsMap P k Rr b (n + 1) (D.put kl d) → w.grownBy w' (some b) → K (a.put o.dst undef) w') :
    if Region.wanted o (yielded ops a.tmps) = true then Oper.wp P o a w K Q else E := by
  have hw : Region.wanted o (yielded ops a.tmps) = true := by simp [Region.wanted, hg]
  rw [if_pos hw]
  obtain ⟨w', hrun, r1, r2⟩ := hown.update Kd ht hn hkey hval
  unfold Oper.wp
  simp [execOp, hop, hm, hx, hv, hrun, Result.andThen]
  exact hK w' r1 r2
end Go.Proofs.Qxb6609358aDoor.A

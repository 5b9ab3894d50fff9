import Derived.Test.Qxb6609358aDoorK
import Derived.LaidEql
import Derived.Stop.Asserts
import Derived.RowKitTokens
namespace Go.Proofs.Qxb6609358aDoor.A
open Go.ChangeShapes Go.WideShapes Go.ChangeAt Go.RowKit P Go.Extern.Stop Go.Stop Go.Extern
set_option linter.unusedVariables false

/-- errors.As(nil, target). -/
theorem as_nil (t : Value) (w : World) :
    Calls Tryd.prog 13 #[.nilIface, t] w fun e w' => e = .returned (.bool false) ∧ w' = w := by
  go_enter Tryd.func13, Tryd.ntmps13
  go_wp2
  go_ret
  exact ⟨rfl, rfl⟩

/-! ### CLOSED FACTS ON THE MODEL's ENTRIES FOR internal/reflectlite, at this program's types: 25: *p.E · 27: **p.E · 23: error · 45: reflectlite's rtype · 1: how many package-level variables the dump has -/
theorem Tryd.valueOf27 (t : Addr) (w : World) : (ReflectliteValue.unpack (.iface 85 (.pointer (some t)))).run Tryd.prog w
    = .ok (.agg #[.pointer (some ⟨5, 85, none⟩), .pointer (some ⟨w.heap.size, 0, none⟩), .int .u64 150]) (w.alloc (.cells #[.pointer (some t)] 85)) := by kernel_rfl
theorem Tryd.type27 (a : Addr) (w : World) : (ReflectliteValue.methodAny (ReflectliteValue.valueError "reflectlite.Value.Type" 0) (fun t _ _ _ => ReflectliteType.toType t) #[.agg #[.pointer (some ⟨5, 85, none⟩), .pointer (some a), .int .u64 150]]).run Tryd.prog w
    = .ok (.iface 106 (.agg #[.pointer (some ⟨5, 85, none⟩)])) w := by kernel_rfl
theorem Tryd.methodKind (h : Value) (w : World) : (Go.method 267 106 (.agg #[h]) "Kind").run Tryd.prog w = .ok (93, h) w := by kernel_rfl
theorem Tryd.kind27 (w : World) : ((ReflectliteType.abiMethod fun t => (fun a : Nat => Value.int IntKind.u8 (a : Int)) <$> Rtype.kind t) #[.pointer (some ⟨5, 85, none⟩)]).run Tryd.prog w = .ok (.int .u8 22) w := by kernel_rfl
theorem Tryd.kind25 (w : World) : ((ReflectliteType.abiMethod fun t => (fun a : Nat => Value.int IntKind.u8 (a : Int)) <$> Rtype.kind t) #[.pointer (some ⟨5, 84, none⟩)]).run Tryd.prog w = .ok (.int .u8 22) w := by kernel_rfl

/-! ### THE ENTRIES THAT READ OR WRITE MEMORY: laws with a premise on the cell (after Derived/Lib/ReflectliteSlice.lean's manner: each unfolding a lemma of its own, by rfl) -/
theorem rlm (z : Sem Value) (f : TypeId → Addr → Nat → Nat → Sem Value) (v : Value) :
    ReflectliteValue.method z f #[v] = (do match ← ReflectliteValue.parts v with | none => z | some (t, a, fl) => f t a fl (fl % 32)) := rfl
theorem Tryd.parts27 (a : Addr) (w : World) : (ReflectliteValue.parts (.agg #[.pointer (some ⟨5, 85, none⟩), .pointer (some a), .int .u64 150])).run Tryd.prog w = .ok (some (85, a, 150)) w := by kernel_rfl
/-- (Value).IsNil at the Value of a **p.E that is not nil. -/
theorem Tryd.isNil27 (a p : Addr) (W : World) (ha : W.cell? a = some (.pointer (some p))) :
    (ReflectliteValue.method (ReflectliteValue.valueError "reflectlite.Value.IsNil" 0) ReflectliteValue.isNil #[.agg #[.pointer (some ⟨5, 85, none⟩), .pointer (some a), .int .u64 150]]).run Tryd.prog W = .ok (.bool false) W := by
  rw [rlm]
  simp only [Sem.run_bind, Tryd.parts27, Result.andThen]
  simp [ReflectliteValue.isNil, loadVar, isAgg, underlying, Tryd.underlying85, ha, Result.andThen]

theorem Tryd.methodElem (h : Value) (w : World) : (Go.method 267 106 (.agg #[h]) "Elem").run Tryd.prog w = .ok (110, .agg #[h]) w := by kernel_rfl
theorem Tryd.methodImplements (h : Value) (w : World) : (Go.method 267 106 (.agg #[h]) "Implements").run Tryd.prog w = .ok (111, .agg #[h]) w := by kernel_rfl
theorem Tryd.methodAssignableTo (h : Value) (w : World) : (Go.method 267 106 (.agg #[h]) "AssignableTo").run Tryd.prog w = .ok (108, .agg #[h]) w := by kernel_rfl
theorem Tryd.elem27 (w : World) : (ReflectliteType.method ReflectliteType.elem #[.agg #[.pointer (some ⟨5, 85, none⟩)]]).run Tryd.prog w = .ok (.iface 106 (.agg #[.pointer (some ⟨5, 84, none⟩)])) w := by kernel_rfl
theorem Tryd.implements25 (w : World) : (ReflectliteType.relation "Implements" ReflectliteType.implements_ #[.agg #[.pointer (some ⟨5, 84, none⟩)], .iface 106 (.agg #[.pointer (some ⟨5, 33, none⟩)])]).run Tryd.prog w = .ok (.bool true) w := by kernel_rfl
theorem Tryd.typeOf25 (v : Value) (w : World) : (ReflectliteType.typeOf #[.iface 84 v]).run Tryd.prog w = .ok (.iface 106 (.agg #[.pointer (some ⟨5, 84, none⟩)])) w := by kernel_rfl
theorem Tryd.assignable25 (w : World) : (ReflectliteType.relation "AssignableTo" ReflectliteType.assignableTo #[.agg #[.pointer (some ⟨5, 84, none⟩)], .iface 106 (.agg #[.pointer (some ⟨5, 84, none⟩)])]).run Tryd.prog w = .ok (.bool true) w := by kernel_rfl
theorem Tryd.valueOf25 (e : Addr) (w : World) : (ReflectliteValue.unpack (.iface 84 (.pointer (some e)))).run Tryd.prog w
    = .ok (.agg #[.pointer (some ⟨5, 84, none⟩), .pointer (some ⟨w.heap.size, 0, none⟩), .int .u64 150]) (w.alloc (.cells #[.pointer (some e)] 84)) := by kernel_rfl

theorem Tryd.elemOf27 (w : World) : (Rtype.elem? 85).run Tryd.prog w = .ok (some 84) w := by kernel_rfl
theorem Tryd.mk25 (p : Addr) (w : World) : (ReflectliteValue.mk 84 p ReflectliteValue.flagAddr).run Tryd.prog w = .ok (.agg #[.pointer (some ⟨5, 84, none⟩), .pointer (some p), .int .u64 406]) w := by kernel_rfl
/-- (Value).Elem at the Value of a **p.E that is not nil: the Value of the *p.E variable that it points to, addressable. -/
theorem Tryd.elemV27 (a p : Addr) (W : World) (ha : W.cell? a = some (.pointer (some p))) :
    (ReflectliteValue.method (ReflectliteValue.valueError "reflectlite.Value.Elem" 0) ReflectliteValue.elem #[.agg #[.pointer (some ⟨5, 85, none⟩), .pointer (some a), .int .u64 150]]).run Tryd.prog W
      = .ok (.agg #[.pointer (some ⟨5, 84, none⟩), .pointer (some p), .int .u64 406]) W := by
  rw [rlm]
  simp only [Sem.run_bind, Tryd.parts27, Result.andThen]
  simp [ReflectliteValue.elem, loadVar, isAgg, underlying, Tryd.underlying85, ha, Result.andThen, Tryd.elemOf27, Tryd.mk25]
theorem rls (v x : Value) : ReflectliteValue.set #[v, x] = (do
    let (some (dst, a, fl), some (src, b, _)) := (← ReflectliteValue.parts v, ← ReflectliteValue.parts x)
      | unsupported (.noEntry "extern/(internal/reflectlite.Value).Set.zeroValue")
    if fl / ReflectliteValue.flagAddr % 2 == 0 then unsupported (.noEntry "extern/(internal/reflectlite.Value).Set.unaddressable")
    let val ← loadVar src b
    if ← Rtype.directlyAssignable dst src then storeVar dst a val
    else if ← Rtype.implements dst src then
      if (← Rtype.kind src) == 20 then
        match val with
        | .nilIface => unsupported (.noEntry "extern/reflectlite: a nil value of one interface type handed on as a value of another")
        | _ => storeVar dst a val
      else storeVar dst a (.iface src val)
    else panicString ("reflectlite.Set: value of type " ++ (← Rtype.spelt src) ++ " is not assignable to type " ++ (← Rtype.spelt dst))
    pure (.tuple #[])) := rfl
theorem Tryd.parts25a (a : Addr) (w : World) : (ReflectliteValue.parts (.agg #[.pointer (some ⟨5, 84, none⟩), .pointer (some a), .int .u64 406])).run Tryd.prog w = .ok (some (84, a, 406)) w := by kernel_rfl
theorem Tryd.parts25 (a : Addr) (w : World) : (ReflectliteValue.parts (.agg #[.pointer (some ⟨5, 84, none⟩), .pointer (some a), .int .u64 150])).run Tryd.prog w = .ok (some (84, a, 150)) w := by kernel_rfl
theorem Tryd.direct25 (w : World) : (Rtype.directlyAssignable 84 84).run Tryd.prog w = .ok true w := by kernel_rfl
theorem Tryd.size25 (w : World) : (sizeOf 84).run Tryd.prog w = .ok 1 w := by kernel_rfl
/-- (Value).Set: the *p.E variable at 'ta' gets what the Value's own variable 'b' holds. -/
theorem Tryd.set25 (ta b e : Addr) (old : Value) (W : World) (hb : W.cell? b = some (.pointer (some e))) (ht : W.cell? ta = some old) (hf : W.frozen? ta = false) :
    (ReflectliteValue.set #[.agg #[.pointer (some ⟨5, 84, none⟩), .pointer (some ta), .int .u64 406], .agg #[.pointer (some ⟨5, 84, none⟩), .pointer (some b), .int .u64 150]]).run Tryd.prog W
      = .ok (.tuple #[]) (W.setCell ta (.pointer (some e))) := by
  rw [rls]
  simp only [Sem.run_bind, Tryd.parts25a, Tryd.parts25, Result.andThen]
  simp [ReflectliteValue.flagAddr, loadVar, isAgg, underlying, Tryd.underlying84, hb, Result.andThen, Tryd.direct25, storeVar, Value.cells, storeCells, Addr.add]
  rw [run_store Tryd.prog W ta _ _ (by rfl)]
  simp [ht, hf]

set_option maxRecDepth 100000 in
set_option maxHeartbeats 4000000 in
theorem as_hit (e t : Addr) (old : Value) (w : World) (hg : w.cell? ⟨0, 0, none⟩ = some (.iface 106 (.agg #[.pointer (some ⟨5, 33, none⟩)]))) (ht0 : w.cell? t = some old) (hf0 : w.frozen? t = false) :
    Calls Tryd.prog 13 #[.iface 84 (.pointer (some e)), .iface 85 (.pointer (some t))] w fun ev w' => ev = .returned (.bool true) ∧ w' = ((((w.alloc (.cells #[.pointer (some t)] 85)).alloc (.cells #[.pointer (some ⟨5, 85, none⟩), .pointer (some ⟨w.heap.size, 0, none⟩), .int .u64 150] 68)).alloc (.cells #[.pointer (some ⟨5, 85, none⟩), .pointer (some ⟨w.heap.size, 0, none⟩), .int .u64 150] 68)).alloc (.cells #[.pointer (some e)] 84)).setCell t (.pointer (some e)) := by
  have h6 := @run_callFunc_extern Tryd.prog 34 _ (fun args => ReflectliteValue.unpack (args.getD 0 (.tuple #[]))) Tryd.func34 (by kernel_rfl) (by kernel_rfl) (by kernel_rfl) (by kernel_rfl)
  have h7 := @run_callFunc_extern Tryd.prog 35 _ (ReflectliteValue.methodAny (ReflectliteValue.valueError "reflectlite.Value.Type" 0) (fun t _ _ _ => ReflectliteType.toType t)) Tryd.func35 (by kernel_rfl) (by kernel_rfl) (by kernel_rfl) (by kernel_rfl)
  have h8 := @run_callFunc_extern Tryd.prog 36 _ (ReflectliteValue.method (ReflectliteValue.valueError "reflectlite.Value.IsNil" 0) ReflectliteValue.isNil) Tryd.func36 (by kernel_rfl) (by kernel_rfl) (by kernel_rfl) (by kernel_rfl)
  have h27 := @run_callFunc_extern Tryd.prog 93 _ (ReflectliteType.abiMethod fun t => do pure (.int .u8 (← Rtype.kind t))) Tryd.func93 (by kernel_rfl) (by kernel_rfl) (by kernel_rfl) (by kernel_rfl)
  have h37 := @run_callFunc_extern Tryd.prog 110 _ (ReflectliteType.method ReflectliteType.elem) Tryd.func110 (by kernel_rfl) (by kernel_rfl) (by kernel_rfl) (by kernel_rfl)
  have h38 := @run_callFunc_extern Tryd.prog 111 _ (ReflectliteType.relation "Implements" ReflectliteType.implements_) Tryd.func111 (by kernel_rfl) (by kernel_rfl) (by kernel_rfl) (by kernel_rfl)
  have h10 := @run_callFunc_extern Tryd.prog 50 _ ReflectliteType.typeOf Tryd.func50 (by kernel_rfl) (by kernel_rfl) (by kernel_rfl) (by kernel_rfl)
  have h35 := @run_callFunc_extern Tryd.prog 108 _ (ReflectliteType.relation "AssignableTo" ReflectliteType.assignableTo) Tryd.func108 (by kernel_rfl) (by kernel_rfl) (by kernel_rfl) (by kernel_rfl)
  have h11 := @run_callFunc_extern Tryd.prog 51 _ (ReflectliteValue.method (ReflectliteValue.valueError "reflectlite.Value.Elem" 0) ReflectliteValue.elem) Tryd.func51 (by kernel_rfl) (by kernel_rfl) (by kernel_rfl) (by kernel_rfl)
  have h12 := @run_callFunc_extern Tryd.prog 52 _ ReflectliteValue.set Tryd.func52 (by kernel_rfl) (by kernel_rfl) (by kernel_rfl) (by kernel_rfl)
  have tO := Tryd.typeOf25
  have mA := Tryd.methodAssignableTo
  have a25 := Tryd.assignable25
  have v25 := Tryd.valueOf25
  have f6 := Tryd.valueOf27
  have f7 := Tryd.type27
  have mK := Tryd.methodKind
  have mE := Tryd.methodElem
  have mI := Tryd.methodImplements
  have k27 := Tryd.kind27
  have k25 := Tryd.kind25
  have e27 := Tryd.elem27
  have i25 := Tryd.implements25
  have n8 := Tryd.isNil27 ⟨w.heap.size, 0, none⟩ t ((w.alloc (.cells #[.pointer (some t)] 85)).alloc (.cells #[.pointer (some ⟨5, 85, none⟩), .pointer (some ⟨w.heap.size, 0, none⟩), .int .u64 150] 68)) (by simp)
  have hlt : 0 < w.heap.size := by
    rcases Nat.eq_zero_or_pos w.heap.size with h0 | h
    · simp [World.cell?, h0] at hg
    · exact h
  have hg2 : ((w.alloc (.cells #[.pointer (some t)] 85)).alloc (.cells #[.pointer (some ⟨5, 85, none⟩), .pointer (some ⟨w.heap.size, 0, none⟩), .int .u64 150] 68)).cell? ⟨0, 0, none⟩ = some (.iface 106 (.agg #[.pointer (some ⟨5, 33, none⟩)])) := by
    rw [World.cell?_alloc_lt _ _ ⟨0, 0, none⟩ (by simp), World.cell?_alloc_lt _ _ ⟨0, 0, none⟩ hlt]; exact hg
  have htl : t.block < w.heap.size := by
    rcases Nat.lt_or_ge t.block w.heap.size with h | h
    · exact h
    · simp [World.cell?, Array.getElem?_eq_none h] at ht0
  have el := Tryd.elemV27 ⟨w.heap.size, 0, none⟩ t (((w.alloc (.cells #[.pointer (some t)] 85)).alloc (.cells #[.pointer (some ⟨5, 85, none⟩), .pointer (some ⟨w.heap.size, 0, none⟩), .int .u64 150] 68)).alloc (.cells #[.pointer (some ⟨5, 85, none⟩), .pointer (some ⟨w.heap.size, 0, none⟩), .int .u64 150] 68)) (by rw [World.cell?_alloc_lt _ _ ⟨w.heap.size, 0, none⟩ (by simp; omega)]; simp)
  have st := Tryd.set25 t ⟨w.heap.size + 1 + 1 + 1, 0, none⟩ e old ((((w.alloc (.cells #[.pointer (some t)] 85)).alloc (.cells #[.pointer (some ⟨5, 85, none⟩), .pointer (some ⟨w.heap.size, 0, none⟩), .int .u64 150] 68)).alloc (.cells #[.pointer (some ⟨5, 85, none⟩), .pointer (some ⟨w.heap.size, 0, none⟩), .int .u64 150] 68)).alloc (.cells #[.pointer (some e)] 84))
    (by rw [World.cell?_alloc_at _ _ _ _ (by simp)]; rfl)
    (by rw [World.cell?_alloc_lt _ _ t (by simp; omega), World.cell?_alloc_lt _ _ t (by simp; omega), World.cell?_alloc_lt _ _ t (by simp; omega), World.cell?_alloc_lt _ _ t htl]; exact ht0)
    (by rw [World.frozen?_alloc_old _ _ t (by simp; omega), World.frozen?_alloc_old _ _ t (by simp; omega), World.frozen?_alloc_old _ _ t (by simp; omega), World.frozen?_alloc_old _ _ t (Nat.ne_of_lt htl)]; exact hf0)
  go_enter Tryd.func13, Tryd.ntmps13
  go_wp2
  refine wp_loop_rounds 1 ?_
  rw [rounds_succ]
  go_wp2
  go_ret
  exact ⟨rfl, rfl⟩
end Go.Proofs.Qxb6609358aDoor.A

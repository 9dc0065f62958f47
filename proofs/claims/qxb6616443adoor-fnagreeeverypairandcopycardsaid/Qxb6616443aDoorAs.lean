/- errors.As at the concrete target **numerand.Error: Go's own text of errors.As and errors.as walked, after the worked example Toyas. -/
import Derived.Test.Qxb6616443aDoorProg
import Derived.WalkKit
import Derived.LaidEql
import Derived.Stop.Asserts
import Derived.RowKitTokens
namespace Go.Proofs.Qxb6616443aDoor
open Go.RowKit Go.Extern.Stop Go.Stop Go.Extern

/-- errors.As(nil, target). -/
theorem as_nil (t : Value) (w : World) :
    Calls Tryd.prog 18 #[.nilIface, t] w fun e w' => e = .returned (.bool false) ∧ w' = w := by
  go_enter Tryd.func18, Tryd.ntmps18
  go_wp2
  go_ret
  exact ⟨rfl, rfl⟩

/-! ### CLOSED FACTS ON THE MODEL's ENTRIES FOR internal/reflectlite, at this program's types: 49: *numerand.Error, 51: **numerand.Error, 35: error, 75: reflectlite's rtype, 71: *errors.errorString; 1: how many package-level variables the dump has. (The names end in 25, 27 after the worked example.) -/
theorem Tryd.valueOf27 (t : Addr) (w : World) : (ReflectliteValue.unpack (.iface 51 (.pointer (some t)))).run Tryd.prog w
    = .ok (.agg #[.pointer (some ⟨1, 51, none⟩), .pointer (some ⟨w.heap.size, 0, none⟩), .int .u64 150]) (w.alloc (.cells #[.pointer (some t)] 51)) := by kernel_rfl
theorem Tryd.type27 (a : Addr) (w : World) : (ReflectliteValue.methodAny (ReflectliteValue.valueError "reflectlite.Value.Type" 0) (fun t _ _ _ => ReflectliteType.toType t) #[.agg #[.pointer (some ⟨1, 51, none⟩), .pointer (some a), .int .u64 150]]).run Tryd.prog w
    = .ok (.iface 75 (.agg #[.pointer (some ⟨1, 51, none⟩)])) w := by kernel_rfl
theorem Tryd.methodKind (h : Value) (w : World) : (Go.method 217 75 (.agg #[h]) "Kind").run Tryd.prog w = .ok (42, h) w := by kernel_rfl
theorem Tryd.kind27 (w : World) : ((ReflectliteType.abiMethod fun t => (fun a : Nat => Value.int IntKind.u8 (a : Int)) <$> Rtype.kind t) #[.pointer (some ⟨1, 51, none⟩)]).run Tryd.prog w = .ok (.int .u8 22) w := by kernel_rfl
theorem Tryd.kind25 (w : World) : ((ReflectliteType.abiMethod fun t => (fun a : Nat => Value.int IntKind.u8 (a : Int)) <$> Rtype.kind t) #[.pointer (some ⟨1, 49, none⟩)]).run Tryd.prog w = .ok (.int .u8 22) w := by kernel_rfl

/-! ### THE ENTRIES THAT READ OR WRITE MEMORY: laws with a premise on the cell (after Derived/Lib/ReflectliteSlice.lean's manner: each unfolding a lemma of its own, by rfl) -/
theorem rlm (z : Sem Value) (f : TypeId → Addr → Nat → Nat → Sem Value) (v : Value) :
    ReflectliteValue.method z f #[v] = (do match ← ReflectliteValue.parts v with | none => z | some (t, a, fl) => f t a fl (fl % 32)) := rfl
theorem Tryd.parts27 (a : Addr) (w : World) : (ReflectliteValue.parts (.agg #[.pointer (some ⟨1, 51, none⟩), .pointer (some a), .int .u64 150])).run Tryd.prog w = .ok (some (51, a, 150)) w := by kernel_rfl
/-- (Value).IsNil at the Value of a **p.E that is not nil. -/
theorem Tryd.isNil27 (a p : Addr) (W : World) (ha : W.cell? a = some (.pointer (some p))) :
    (ReflectliteValue.method (ReflectliteValue.valueError "reflectlite.Value.IsNil" 0) ReflectliteValue.isNil #[.agg #[.pointer (some ⟨1, 51, none⟩), .pointer (some a), .int .u64 150]]).run Tryd.prog W = .ok (.bool false) W := by
  rw [rlm]
  simp only [Sem.run_bind, Tryd.parts27, Result.andThen]
  simp [ReflectliteValue.isNil, loadVar, isAgg, underlying, Tryd.underlying51, ha, Result.andThen]

theorem Tryd.methodElem (h : Value) (w : World) : (Go.method 217 75 (.agg #[h]) "Elem").run Tryd.prog w = .ok (53, .agg #[h]) w := by kernel_rfl
theorem Tryd.methodImplements (h : Value) (w : World) : (Go.method 217 75 (.agg #[h]) "Implements").run Tryd.prog w = .ok (54, .agg #[h]) w := by kernel_rfl
theorem Tryd.methodAssignableTo (h : Value) (w : World) : (Go.method 217 75 (.agg #[h]) "AssignableTo").run Tryd.prog w = .ok (51, .agg #[h]) w := by kernel_rfl
theorem Tryd.elem27 (w : World) : (ReflectliteType.method ReflectliteType.elem #[.agg #[.pointer (some ⟨1, 51, none⟩)]]).run Tryd.prog w = .ok (.iface 75 (.agg #[.pointer (some ⟨1, 49, none⟩)])) w := by kernel_rfl
theorem Tryd.implements25 (w : World) : (ReflectliteType.relation "Implements" ReflectliteType.implements_ #[.agg #[.pointer (some ⟨1, 49, none⟩)], .iface 75 (.agg #[.pointer (some ⟨1, 35, none⟩)])]).run Tryd.prog w = .ok (.bool true) w := by kernel_rfl
theorem Tryd.typeOf25 (v : Value) (w : World) : (ReflectliteType.typeOf #[.iface 49 v]).run Tryd.prog w = .ok (.iface 75 (.agg #[.pointer (some ⟨1, 49, none⟩)])) w := by kernel_rfl
theorem Tryd.assignable25 (w : World) : (ReflectliteType.relation "AssignableTo" ReflectliteType.assignableTo #[.agg #[.pointer (some ⟨1, 49, none⟩)], .iface 75 (.agg #[.pointer (some ⟨1, 49, none⟩)])]).run Tryd.prog w = .ok (.bool true) w := by kernel_rfl
theorem Tryd.valueOf25 (e : Addr) (w : World) : (ReflectliteValue.unpack (.iface 49 (.pointer (some e)))).run Tryd.prog w
    = .ok (.agg #[.pointer (some ⟨1, 49, none⟩), .pointer (some ⟨w.heap.size, 0, none⟩), .int .u64 150]) (w.alloc (.cells #[.pointer (some e)] 49)) := by kernel_rfl

theorem Tryd.elemOf27 (w : World) : (Rtype.elem? 51).run Tryd.prog w = .ok (some 49) w := by kernel_rfl
theorem Tryd.mk25 (p : Addr) (w : World) : (ReflectliteValue.mk 49 p ReflectliteValue.flagAddr).run Tryd.prog w = .ok (.agg #[.pointer (some ⟨1, 49, none⟩), .pointer (some p), .int .u64 406]) w := by kernel_rfl
/-- (Value).Elem at the Value of a **p.E that is not nil: the Value of the *p.E variable that it points to, addressable. -/
theorem Tryd.elemV27 (a p : Addr) (W : World) (ha : W.cell? a = some (.pointer (some p))) :
    (ReflectliteValue.method (ReflectliteValue.valueError "reflectlite.Value.Elem" 0) ReflectliteValue.elem #[.agg #[.pointer (some ⟨1, 51, none⟩), .pointer (some a), .int .u64 150]]).run Tryd.prog W
      = .ok (.agg #[.pointer (some ⟨1, 49, none⟩), .pointer (some p), .int .u64 406]) W := by
  rw [rlm]
  simp only [Sem.run_bind, Tryd.parts27, Result.andThen]
  simp [ReflectliteValue.elem, loadVar, isAgg, underlying, Tryd.underlying51, ha, Result.andThen, Tryd.elemOf27, Tryd.mk25]
theorem rls (v x : Value) : ∃ (u1 : Option (TypeId × Addr × Nat) × Option (TypeId × Addr × Nat) → Sem Value) (u2 : TypeId → Addr → Nat → TypeId → Addr → Nat → Sem Value) (K : TypeId → Addr → Nat → TypeId → Addr → Nat → Value → Sem Value), ReflectliteValue.set #[v, x] =
    (ReflectliteValue.parts v >>= fun p => ReflectliteValue.parts x >>= fun q => match (p, q) with
      | (some (dst, a, fl), some (src, b, g)) => if (fl / ReflectliteValue.flagAddr % 2 == 0) = true then u2 dst a fl src b g else
          (loadVar src b >>= fun val => Rtype.directlyAssignable dst src >>= fun d => if d = true then (storeVar dst a val >>= fun _ => pure (.tuple #[])) else K dst a fl src b g val)
      | z => u1 z) := ⟨_, _, _, rfl⟩
theorem Tryd.parts25a (a : Addr) (w : World) : (ReflectliteValue.parts (.agg #[.pointer (some ⟨1, 49, none⟩), .pointer (some a), .int .u64 406])).run Tryd.prog w = .ok (some (49, a, 406)) w := by kernel_rfl
theorem Tryd.parts25 (a : Addr) (w : World) : (ReflectliteValue.parts (.agg #[.pointer (some ⟨1, 49, none⟩), .pointer (some a), .int .u64 150])).run Tryd.prog w = .ok (some (49, a, 150)) w := by kernel_rfl
theorem Tryd.direct25 (w : World) : (Rtype.directlyAssignable 49 49).run Tryd.prog w = .ok true w := by kernel_rfl
theorem Tryd.size25 (w : World) : (sizeOf 49).run Tryd.prog w = .ok 1 w := by kernel_rfl
/-- (Value).Set: the *p.E variable at 'ta' gets what the Value's own variable 'b' holds. -/
theorem Tryd.set25 (ta b e : Addr) (old : Value) (W : World) (hb : W.cell? b = some (.pointer (some e))) (ht : W.cell? ta = some old) (hf : W.frozen? ta = false) :
    (ReflectliteValue.set #[.agg #[.pointer (some ⟨1, 49, none⟩), .pointer (some ta), .int .u64 406], .agg #[.pointer (some ⟨1, 49, none⟩), .pointer (some b), .int .u64 150]]).run Tryd.prog W
      = .ok (.tuple #[]) (W.setCell ta (.pointer (some e))) := by
  obtain ⟨u1, u2, K, hs⟩ := rls (.agg #[.pointer (some ⟨1, 49, none⟩), .pointer (some ta), .int .u64 406]) (.agg #[.pointer (some ⟨1, 49, none⟩), .pointer (some b), .int .u64 150])
  rw [hs]
  simp only [Sem.run_bind, Tryd.parts25a, Tryd.parts25, Result.andThen]
  simp [ReflectliteValue.flagAddr, loadVar, isAgg, underlying, Tryd.underlying49, hb, Result.andThen, Tryd.direct25, storeVar, Value.cells, storeCells, Addr.add]
  rw [run_store Tryd.prog W ta _ _ (by rfl)]
  simp [ht, hf]


/-! ### The body-less functions on the road, by the model's entries -/
theorem Tryd.ext21 (args : Array Value) (w : World) : (callFunc 21 args).run Tryd.prog w = (((fun args => ReflectliteValue.unpack (args.getD 0 (.tuple #[]))) args).run Tryd.prog w).andThen fun v w' => .ok (.value v) w' :=
  @run_callFunc_extern Tryd.prog 21 _ (fun args => ReflectliteValue.unpack (args.getD 0 (.tuple #[]))) Tryd.func21 (by kernel_rfl) (by kernel_rfl) (by kernel_rfl) (by kernel_rfl) args w
theorem Tryd.ext22 (args : Array Value) (w : World) : (callFunc 22 args).run Tryd.prog w = (((ReflectliteValue.methodAny (ReflectliteValue.valueError "reflectlite.Value.Type" 0) (fun t _ _ _ => ReflectliteType.toType t)) args).run Tryd.prog w).andThen fun v w' => .ok (.value v) w' :=
  @run_callFunc_extern Tryd.prog 22 _ (ReflectliteValue.methodAny (ReflectliteValue.valueError "reflectlite.Value.Type" 0) (fun t _ _ _ => ReflectliteType.toType t)) Tryd.func22 (by kernel_rfl) (by kernel_rfl) (by kernel_rfl) (by kernel_rfl) args w
theorem Tryd.ext23 (args : Array Value) (w : World) : (callFunc 23 args).run Tryd.prog w = (((ReflectliteValue.method (ReflectliteValue.valueError "reflectlite.Value.IsNil" 0) ReflectliteValue.isNil) args).run Tryd.prog w).andThen fun v w' => .ok (.value v) w' :=
  @run_callFunc_extern Tryd.prog 23 _ (ReflectliteValue.method (ReflectliteValue.valueError "reflectlite.Value.IsNil" 0) ReflectliteValue.isNil) Tryd.func23 (by kernel_rfl) (by kernel_rfl) (by kernel_rfl) (by kernel_rfl) args w
theorem Tryd.ext42 (args : Array Value) (w : World) : (callFunc 42 args).run Tryd.prog w = (((ReflectliteType.abiMethod fun t => do pure (.int .u8 (← Rtype.kind t))) args).run Tryd.prog w).andThen fun v w' => .ok (.value v) w' :=
  @run_callFunc_extern Tryd.prog 42 _ (ReflectliteType.abiMethod fun t => do pure (.int .u8 (← Rtype.kind t))) Tryd.func42 (by kernel_rfl) (by kernel_rfl) (by kernel_rfl) (by kernel_rfl) args w
theorem Tryd.ext53 (args : Array Value) (w : World) : (callFunc 53 args).run Tryd.prog w = (((ReflectliteType.method ReflectliteType.elem) args).run Tryd.prog w).andThen fun v w' => .ok (.value v) w' :=
  @run_callFunc_extern Tryd.prog 53 _ (ReflectliteType.method ReflectliteType.elem) Tryd.func53 (by kernel_rfl) (by kernel_rfl) (by kernel_rfl) (by kernel_rfl) args w
theorem Tryd.ext54 (args : Array Value) (w : World) : (callFunc 54 args).run Tryd.prog w = (((ReflectliteType.relation "Implements" ReflectliteType.implements_) args).run Tryd.prog w).andThen fun v w' => .ok (.value v) w' :=
  @run_callFunc_extern Tryd.prog 54 _ (ReflectliteType.relation "Implements" ReflectliteType.implements_) Tryd.func54 (by kernel_rfl) (by kernel_rfl) (by kernel_rfl) (by kernel_rfl) args w
theorem Tryd.ext25 (args : Array Value) (w : World) : (callFunc 25 args).run Tryd.prog w = ((ReflectliteType.typeOf args).run Tryd.prog w).andThen fun v w' => .ok (.value v) w' :=
  @run_callFunc_extern Tryd.prog 25 _ ReflectliteType.typeOf Tryd.func25 (by kernel_rfl) (by kernel_rfl) (by kernel_rfl) (by kernel_rfl) args w
theorem Tryd.ext51 (args : Array Value) (w : World) : (callFunc 51 args).run Tryd.prog w = (((ReflectliteType.relation "AssignableTo" ReflectliteType.assignableTo) args).run Tryd.prog w).andThen fun v w' => .ok (.value v) w' :=
  @run_callFunc_extern Tryd.prog 51 _ (ReflectliteType.relation "AssignableTo" ReflectliteType.assignableTo) Tryd.func51 (by kernel_rfl) (by kernel_rfl) (by kernel_rfl) (by kernel_rfl) args w
theorem Tryd.ext26 (args : Array Value) (w : World) : (callFunc 26 args).run Tryd.prog w = (((ReflectliteValue.method (ReflectliteValue.valueError "reflectlite.Value.Elem" 0) ReflectliteValue.elem) args).run Tryd.prog w).andThen fun v w' => .ok (.value v) w' :=
  @run_callFunc_extern Tryd.prog 26 _ (ReflectliteValue.method (ReflectliteValue.valueError "reflectlite.Value.Elem" 0) ReflectliteValue.elem) Tryd.func26 (by kernel_rfl) (by kernel_rfl) (by kernel_rfl) (by kernel_rfl) args w
theorem Tryd.ext27 (args : Array Value) (w : World) : (callFunc 27 args).run Tryd.prog w = ((ReflectliteValue.set args).run Tryd.prog w).andThen fun v w' => .ok (.value v) w' :=
  @run_callFunc_extern Tryd.prog 27 _ ReflectliteValue.set Tryd.func27 (by kernel_rfl) (by kernel_rfl) (by kernel_rfl) (by kernel_rfl) args w

/-! ### The miss: a *errors.errorString is none -/
theorem Tryd.typeOf71 (v : Value) (w : World) : (ReflectliteType.typeOf #[.iface 71 v]).run Tryd.prog w = .ok (.iface 75 (.agg #[.pointer (some ⟨1, 71, none⟩)])) w := by kernel_rfl
theorem Tryd.assignable71 (w : World) : (ReflectliteType.relation "AssignableTo" ReflectliteType.assignableTo #[.agg #[.pointer (some ⟨1, 71, none⟩)], .iface 75 (.agg #[.pointer (some ⟨1, 49, none⟩)])]).run Tryd.prog w = .ok (.bool false) w := by kernel_rfl
theorem Tryd.noAs71 (v : Value) (xT : TypeId) (w : World) : (Instr.typeAssert (.iface 71 v) xT 80 true).run Tryd.prog w = .ok (.tuple #[.nilIface, .bool false]) w := run_typeAssert_lacksB Tryd.underlying80 (by kernel_rfl) (by kernel_rfl) v xT w
theorem Tryd.noUnwrap71 (v : Value) (xT : TypeId) (w : World) : (Instr.typeAssert (.iface 71 v) xT 83 true).run Tryd.prog w = .ok (.tuple #[.nilIface, .bool false]) w := run_typeAssert_lacksB Tryd.underlying83 (by kernel_rfl) (by kernel_rfl) v xT w
theorem Tryd.noUnwraps71 (v : Value) (xT : TypeId) (w : World) : (Instr.typeAssert (.iface 71 v) xT 85 true).run Tryd.prog w = .ok (.tuple #[.nilIface, .bool false]) w := run_typeAssert_lacksB Tryd.underlying85 (by kernel_rfl) (by kernel_rfl) v xT w
end Go.Proofs.Qxb6616443aDoor

/- errors.Is and errors.As by their contracts, at the errors that bcrypt hands back. (Written by wip/gen_errs.py, after the guide's worked texts SentryIs and ToyasAs.) -/
import Derived.Test.YthnhdfgonpbldaaGreatDoorBase
import Derived.LaidEql
import Derived.Stop.Asserts
import Derived.RowKitTokens
namespace Go.Proofs.YthnhdfgonpbldaaGreatDoor
open Go.RowKit Go.Extern.Stop Go.Stop Go.Extern

noncomputable def cmpEntry : Array Value → Sem Value := ReflectliteType.method fun t => do Rtype.noPackHeld "Comparable" t; pure (.bool (← typeInfo t).comparable)
theorem ext135 (args : Array Value) (w : World) : (callFunc 135 args).run Tryz.prog w = ((cmpEntry args).run Tryz.prog w).andThen fun v w' => .ok (.value v) w' :=
  @run_callFunc_extern Tryz.prog 135 _ cmpEntry Tryz.func135 (by kernel_rfl) (by kernel_rfl) (by kernel_rfl) (by kernel_rfl) args w
theorem ext42 (args : Array Value) (w : World) : (callFunc 42 args).run Tryz.prog w = ((ReflectliteType.typeOf args).run Tryz.prog w).andThen fun v w' => .ok (.value v) w' :=
  @run_callFunc_extern Tryz.prog 42 _ ReflectliteType.typeOf Tryz.func42 (by kernel_rfl) (by kernel_rfl) (by kernel_rfl) (by kernel_rfl) args w
theorem ext44 (args : Array Value) (w : World) : (callFunc 44 args).run Tryz.prog w = (((fun args => ReflectliteValue.unpack (args.getD 0 (.tuple #[]))) args).run Tryz.prog w).andThen fun v w' => .ok (.value v) w' :=
  @run_callFunc_extern Tryz.prog 44 _ (fun args => ReflectliteValue.unpack (args.getD 0 (.tuple #[]))) Tryz.func44 (by kernel_rfl) (by kernel_rfl) (by kernel_rfl) (by kernel_rfl) args w
theorem ext45 (args : Array Value) (w : World) : (callFunc 45 args).run Tryz.prog w = (((ReflectliteValue.methodAny (ReflectliteValue.valueError "reflectlite.Value.Type" 0) (fun t _ _ _ => ReflectliteType.toType t)) args).run Tryz.prog w).andThen fun v w' => .ok (.value v) w' :=
  @run_callFunc_extern Tryz.prog 45 _ (ReflectliteValue.methodAny (ReflectliteValue.valueError "reflectlite.Value.Type" 0) (fun t _ _ _ => ReflectliteType.toType t)) Tryz.func45 (by kernel_rfl) (by kernel_rfl) (by kernel_rfl) (by kernel_rfl) args w
theorem ext46 (args : Array Value) (w : World) : (callFunc 46 args).run Tryz.prog w = (((ReflectliteValue.method (ReflectliteValue.valueError "reflectlite.Value.IsNil" 0) ReflectliteValue.isNil) args).run Tryz.prog w).andThen fun v w' => .ok (.value v) w' :=
  @run_callFunc_extern Tryz.prog 46 _ (ReflectliteValue.method (ReflectliteValue.valueError "reflectlite.Value.IsNil" 0) ReflectliteValue.isNil) Tryz.func46 (by kernel_rfl) (by kernel_rfl) (by kernel_rfl) (by kernel_rfl) args w
theorem ext123 (args : Array Value) (w : World) : (callFunc 123 args).run Tryz.prog w = (((ReflectliteType.abiMethod fun t => do pure (.int .u8 (← Rtype.kind t))) args).run Tryz.prog w).andThen fun v w' => .ok (.value v) w' :=
  @run_callFunc_extern Tryz.prog 123 _ (ReflectliteType.abiMethod fun t => do pure (.int .u8 (← Rtype.kind t))) Tryz.func123 (by kernel_rfl) (by kernel_rfl) (by kernel_rfl) (by kernel_rfl) args w
theorem ext136 (args : Array Value) (w : World) : (callFunc 136 args).run Tryz.prog w = (((ReflectliteType.method ReflectliteType.elem) args).run Tryz.prog w).andThen fun v w' => .ok (.value v) w' :=
  @run_callFunc_extern Tryz.prog 136 _ (ReflectliteType.method ReflectliteType.elem) Tryz.func136 (by kernel_rfl) (by kernel_rfl) (by kernel_rfl) (by kernel_rfl) args w
theorem ext137 (args : Array Value) (w : World) : (callFunc 137 args).run Tryz.prog w = (((ReflectliteType.relation "Implements" ReflectliteType.implements_) args).run Tryz.prog w).andThen fun v w' => .ok (.value v) w' :=
  @run_callFunc_extern Tryz.prog 137 _ (ReflectliteType.relation "Implements" ReflectliteType.implements_) Tryz.func137 (by kernel_rfl) (by kernel_rfl) (by kernel_rfl) (by kernel_rfl) args w
theorem ext134 (args : Array Value) (w : World) : (callFunc 134 args).run Tryz.prog w = (((ReflectliteType.relation "AssignableTo" ReflectliteType.assignableTo) args).run Tryz.prog w).andThen fun v w' => .ok (.value v) w' :=
  @run_callFunc_extern Tryz.prog 134 _ (ReflectliteType.relation "AssignableTo" ReflectliteType.assignableTo) Tryz.func134 (by kernel_rfl) (by kernel_rfl) (by kernel_rfl) (by kernel_rfl) args w
theorem ext60 (args : Array Value) (w : World) : (callFunc 60 args).run Tryz.prog w = (((ReflectliteValue.method (ReflectliteValue.valueError "reflectlite.Value.Elem" 0) ReflectliteValue.elem) args).run Tryz.prog w).andThen fun v w' => .ok (.value v) w' :=
  @run_callFunc_extern Tryz.prog 60 _ (ReflectliteValue.method (ReflectliteValue.valueError "reflectlite.Value.Elem" 0) ReflectliteValue.elem) Tryz.func60 (by kernel_rfl) (by kernel_rfl) (by kernel_rfl) (by kernel_rfl) args w
theorem ext61 (args : Array Value) (w : World) : (callFunc 61 args).run Tryz.prog w = ((ReflectliteValue.set args).run Tryz.prog w).andThen fun v w' => .ok (.value v) w' :=
  @run_callFunc_extern Tryz.prog 61 _ ReflectliteValue.set Tryz.func61 (by kernel_rfl) (by kernel_rfl) (by kernel_rfl) (by kernel_rfl) args w
theorem isTypeOf180 (v : Value) (w : World) : (ReflectliteType.typeOf #[.iface 180 v]).run Tryz.prog w = .ok (.iface 111 (.agg #[.pointer (some ⟨14, 180, none⟩)])) w := by kernel_rfl
theorem isComparable (w : World) : (cmpEntry #[.agg #[.pointer (some ⟨14, 180, none⟩)]]).run Tryz.prog w = .ok (.bool true) w := by kernel_rfl
theorem isMethodComparable (h : Value) (w : World) : (Go.method 318 111 (.agg #[h]) "Comparable").run Tryz.prog w = .ok (135, .agg #[h]) w := by kernel_rfl
theorem isComp180 : (Tryz.prog.info? 180).map (·.comparable) = some true := by kernel_rfl
theorem isSize182 : (Tryz.prog.info? 182).map (·.size) = some 1 := by kernel_rfl

theorem noIs62 (v : Value) (xT : TypeId) (w : World) : (Instr.typeAssert (.iface 62 v) xT 113 true).run Tryz.prog w = .ok (.tuple #[.nilIface, .bool false]) w := run_typeAssert_lacksB Tryz.underlying113 (by kernel_rfl) (by kernel_rfl) v xT w
theorem noUnwrap62 (v : Value) (xT : TypeId) (w : World) : (Instr.typeAssert (.iface 62 v) xT 116 true).run Tryz.prog w = .ok (.tuple #[.nilIface, .bool false]) w := run_typeAssert_lacksB Tryz.underlying116 (by kernel_rfl) (by kernel_rfl) v xT w
theorem noUnwraps62 (v : Value) (xT : TypeId) (w : World) : (Instr.typeAssert (.iface 62 v) xT 118 true).run Tryz.prog w = .ok (.tuple #[.nilIface, .bool false]) w := run_typeAssert_lacksB Tryz.underlying118 (by kernel_rfl) (by kernel_rfl) v xT w
theorem noAs62 (v : Value) (xT : TypeId) (w : World) : (Instr.typeAssert (.iface 62 v) xT 123 true).run Tryz.prog w = .ok (.tuple #[.nilIface, .bool false]) w := run_typeAssert_lacksB Tryz.underlying123 (by kernel_rfl) (by kernel_rfl) v xT w
theorem noIs63 (v : Value) (xT : TypeId) (w : World) : (Instr.typeAssert (.iface 63 v) xT 113 true).run Tryz.prog w = .ok (.tuple #[.nilIface, .bool false]) w := run_typeAssert_lacksB Tryz.underlying113 (by kernel_rfl) (by kernel_rfl) v xT w
theorem noUnwrap63 (v : Value) (xT : TypeId) (w : World) : (Instr.typeAssert (.iface 63 v) xT 116 true).run Tryz.prog w = .ok (.tuple #[.nilIface, .bool false]) w := run_typeAssert_lacksB Tryz.underlying116 (by kernel_rfl) (by kernel_rfl) v xT w
theorem noUnwraps63 (v : Value) (xT : TypeId) (w : World) : (Instr.typeAssert (.iface 63 v) xT 118 true).run Tryz.prog w = .ok (.tuple #[.nilIface, .bool false]) w := run_typeAssert_lacksB Tryz.underlying118 (by kernel_rfl) (by kernel_rfl) v xT w
theorem noAs63 (v : Value) (xT : TypeId) (w : World) : (Instr.typeAssert (.iface 63 v) xT 123 true).run Tryz.prog w = .ok (.tuple #[.nilIface, .bool false]) w := run_typeAssert_lacksB Tryz.underlying123 (by kernel_rfl) (by kernel_rfl) v xT w
theorem noIs64 (v : Value) (xT : TypeId) (w : World) : (Instr.typeAssert (.iface 64 v) xT 113 true).run Tryz.prog w = .ok (.tuple #[.nilIface, .bool false]) w := run_typeAssert_lacksB Tryz.underlying113 (by kernel_rfl) (by kernel_rfl) v xT w
theorem noUnwrap64 (v : Value) (xT : TypeId) (w : World) : (Instr.typeAssert (.iface 64 v) xT 116 true).run Tryz.prog w = .ok (.tuple #[.nilIface, .bool false]) w := run_typeAssert_lacksB Tryz.underlying116 (by kernel_rfl) (by kernel_rfl) v xT w
theorem noUnwraps64 (v : Value) (xT : TypeId) (w : World) : (Instr.typeAssert (.iface 64 v) xT 118 true).run Tryz.prog w = .ok (.tuple #[.nilIface, .bool false]) w := run_typeAssert_lacksB Tryz.underlying118 (by kernel_rfl) (by kernel_rfl) v xT w
theorem noAs64 (v : Value) (xT : TypeId) (w : World) : (Instr.typeAssert (.iface 64 v) xT 123 true).run Tryz.prog w = .ok (.tuple #[.nilIface, .bool false]) w := run_typeAssert_lacksB Tryz.underlying123 (by kernel_rfl) (by kernel_rfl) v xT w
theorem noIs180 (v : Value) (xT : TypeId) (w : World) : (Instr.typeAssert (.iface 180 v) xT 113 true).run Tryz.prog w = .ok (.tuple #[.nilIface, .bool false]) w := run_typeAssert_lacksB Tryz.underlying113 (by kernel_rfl) (by kernel_rfl) v xT w
theorem noUnwrap180 (v : Value) (xT : TypeId) (w : World) : (Instr.typeAssert (.iface 180 v) xT 116 true).run Tryz.prog w = .ok (.tuple #[.nilIface, .bool false]) w := run_typeAssert_lacksB Tryz.underlying116 (by kernel_rfl) (by kernel_rfl) v xT w
theorem noUnwraps180 (v : Value) (xT : TypeId) (w : World) : (Instr.typeAssert (.iface 180 v) xT 118 true).run Tryz.prog w = .ok (.tuple #[.nilIface, .bool false]) w := run_typeAssert_lacksB Tryz.underlying118 (by kernel_rfl) (by kernel_rfl) v xT w
theorem noAs180 (v : Value) (xT : TypeId) (w : World) : (Instr.typeAssert (.iface 180 v) xT 123 true).run Tryz.prog w = .ok (.tuple #[.nilIface, .bool false]) w := run_typeAssert_lacksB Tryz.underlying123 (by kernel_rfl) (by kernel_rfl) v xT w
theorem is_same (a : Addr) (w : World) :
    Calls Tryz.prog 31 #[.iface 180 (.pointer (some a)), .iface 180 (.pointer (some a))] w fun e w' => e = .returned (.bool true) ∧ w = w' := by
  obtain ⟨i, hi, hcmp⟩ := Option.map_eq_some_iff.1 isComp180
  obtain ⟨j, hj, hjs⟩ := Option.map_eq_some_iff.1 isSize182
  have h42 := ext42
  have h135 := ext135
  have tT := isTypeOf180
  have cT := isComparable
  have mR := isMethodComparable
  have heq := run_eql_iface_ptr_same (P := Tryz.prog) w a Tryz.underlying54 Tryz.underlying180 hi hcmp hj
  go_enter Tryz.func31, Tryz.ntmps31
  go_wp2
  refine wp_loop_rounds 1 ?_
  rw [rounds_succ]
  go_wp2
  go_ret
  exact ⟨rfl, rfl⟩
theorem is_other (a b : Addr) (ca cb : Array Value) (ta tb : TypeId) (w : World) (hne : a ≠ b) (ha : w.heap[a.block]? = some (.cells ca ta (0, 0))) (hb : w.heap[b.block]? = some (.cells cb tb (0, 0))) :
    Calls Tryz.prog 31 #[.iface 180 (.pointer (some a)), .iface 180 (.pointer (some b))] w fun e w' => e = .returned (.bool false) ∧ w = w' := by
  obtain ⟨i, hi, hcmp⟩ := Option.map_eq_some_iff.1 isComp180
  obtain ⟨j, hj, hjs⟩ := Option.map_eq_some_iff.1 isSize182
  have h42 := ext42
  have h135 := ext135
  have tT := isTypeOf180
  have cT := isComparable
  have mR := isMethodComparable
  have n1 := noIs180
  have n2 := noUnwrap180
  have n3 := noUnwraps180
  have heq := run_eql_iface_ptr_other (P := Tryz.prog) w Tryz.underlying54 Tryz.underlying180 hi hcmp hj (by rw [hjs]; decide) hne ha hb
  go_enter Tryz.func31, Tryz.ntmps31
  go_wp2
  refine wp_loop_rounds 1 ?_
  rw [rounds_succ]
  go_wp2
  go_ret
  exact ⟨rfl, rfl⟩
theorem is_not62 (v : Value) (b : Addr) (w : World) :
    Calls Tryz.prog 31 #[.iface 62 v, .iface 180 (.pointer (some b))] w fun e w' => e = .returned (.bool false) ∧ w = w' := by
  have h42 := ext42
  have h135 := ext135
  have tT := isTypeOf180
  have cT := isComparable
  have mR := isMethodComparable
  have n1 := noIs62
  have n2 := noUnwrap62
  have n3 := noUnwraps62
  have heq := run_eql_iface_types (P := Tryz.prog) 62 180 v (.pointer (some b)) Tryz.underlying54 (by decide)
  go_enter Tryz.func31, Tryz.ntmps31
  go_wp2
  refine wp_loop_rounds 1 ?_
  rw [rounds_succ]
  go_wp2
  go_ret
  exact ⟨rfl, rfl⟩
theorem is_not63 (v : Value) (b : Addr) (w : World) :
    Calls Tryz.prog 31 #[.iface 63 v, .iface 180 (.pointer (some b))] w fun e w' => e = .returned (.bool false) ∧ w = w' := by
  have h42 := ext42
  have h135 := ext135
  have tT := isTypeOf180
  have cT := isComparable
  have mR := isMethodComparable
  have n1 := noIs63
  have n2 := noUnwrap63
  have n3 := noUnwraps63
  have heq := run_eql_iface_types (P := Tryz.prog) 63 180 v (.pointer (some b)) Tryz.underlying54 (by decide)
  go_enter Tryz.func31, Tryz.ntmps31
  go_wp2
  refine wp_loop_rounds 1 ?_
  rw [rounds_succ]
  go_wp2
  go_ret
  exact ⟨rfl, rfl⟩
theorem is_not64 (v : Value) (b : Addr) (w : World) :
    Calls Tryz.prog 31 #[.iface 64 v, .iface 180 (.pointer (some b))] w fun e w' => e = .returned (.bool false) ∧ w = w' := by
  have h42 := ext42
  have h135 := ext135
  have tT := isTypeOf180
  have cT := isComparable
  have mR := isMethodComparable
  have n1 := noIs64
  have n2 := noUnwrap64
  have n3 := noUnwraps64
  have heq := run_eql_iface_types (P := Tryz.prog) 64 180 v (.pointer (some b)) Tryz.underlying54 (by decide)
  go_enter Tryz.func31, Tryz.ntmps31
  go_wp2
  refine wp_loop_rounds 1 ?_
  rw [rounds_succ]
  go_wp2
  go_ret
  exact ⟨rfl, rfl⟩

/-! errors.As -/
theorem rlm (z : Sem Value) (f : TypeId → Addr → Nat → Nat → Sem Value) (v : Value) :
    ReflectliteValue.method z f #[v] = (do match ← ReflectliteValue.parts v with | none => z | some (t, a, fl) => f t a fl (fl % 32)) := rfl
theorem rls (v x : Value) : ReflectliteValue.set #[v, x] = (do
    let (some (dst, a, fl), some (src, b, _)) := (← ReflectliteValue.parts v, ← ReflectliteValue.parts x)
      | unsupported (.noEntry "extern/(internal/reflectlite.Value).Set.zeroValue")
    if fl / ReflectliteValue.flagAddr % 2 == 0 then unsupported (.noEntry "extern/(internal/reflectlite.Value).Set.unaddressable")
    let val ← loadVar src b
    if ← Rtype.directlyAssignable dst src then storeVar dst a val
    else if ← Rtype.implements dst src then
      if (← Rtype.kind src) == 20 then
        match val with
        | .nilIface => unsupported (.noEntry "extern/reflectlite: a nil value of one interface type handed on as a value of another")
        | _ => storeVar dst a val
      else storeVar dst a (.iface src val)
    else panicString ("reflectlite.Set: value of type " ++ (← Rtype.spelt src) ++ " is not assignable to type " ++ (← Rtype.spelt dst))
    pure (.tuple #[])) := rfl
theorem methodKind (h : Value) (w : World) : (Go.method 318 111 (.agg #[h]) "Kind").run Tryz.prog w = .ok (123, h) w := by kernel_rfl
theorem methodElem (h : Value) (w : World) : (Go.method 318 111 (.agg #[h]) "Elem").run Tryz.prog w = .ok (136, .agg #[h]) w := by kernel_rfl
theorem methodImplements (h : Value) (w : World) : (Go.method 318 111 (.agg #[h]) "Implements").run Tryz.prog w = .ok (137, .agg #[h]) w := by kernel_rfl
theorem methodAssignableTo (h : Value) (w : World) : (Go.method 318 111 (.agg #[h]) "AssignableTo").run Tryz.prog w = .ok (134, .agg #[h]) w := by kernel_rfl
theorem valueOf67 (t : Addr) (w : World) : (ReflectliteValue.unpack (.iface 67 (.pointer (some t)))).run Tryz.prog w
    = .ok (.agg #[.pointer (some ⟨14, 67, none⟩), .pointer (some ⟨w.heap.size, 0, none⟩), .int .u64 150]) (w.alloc (.cells #[.pointer (some t)] 67)) := by kernel_rfl
theorem type67 (a : Addr) (w : World) : (ReflectliteValue.methodAny (ReflectliteValue.valueError "reflectlite.Value.Type" 0) (fun t _ _ _ => ReflectliteType.toType t) #[.agg #[.pointer (some ⟨14, 67, none⟩), .pointer (some a), .int .u64 150]]).run Tryz.prog w
    = .ok (.iface 111 (.agg #[.pointer (some ⟨14, 67, none⟩)])) w := by kernel_rfl
theorem kind67 (w : World) : ((ReflectliteType.abiMethod fun t => (fun a : Nat => Value.int IntKind.u8 (a : Int)) <$> Rtype.kind t) #[.pointer (some ⟨14, 67, none⟩)]).run Tryz.prog w = .ok (.int .u8 22) w := by kernel_rfl
theorem kind62 (w : World) : ((ReflectliteType.abiMethod fun t => (fun a : Nat => Value.int IntKind.u8 (a : Int)) <$> Rtype.kind t) #[.pointer (some ⟨14, 62, none⟩)]).run Tryz.prog w = .ok (.int .u8 8) w := by kernel_rfl
theorem parts67 (a : Addr) (w : World) : (ReflectliteValue.parts (.agg #[.pointer (some ⟨14, 67, none⟩), .pointer (some a), .int .u64 150])).run Tryz.prog w = .ok (some (67, a, 150)) w := by kernel_rfl
theorem isNil67 (a p : Addr) (W : World) (ha : W.cell? a = some (.pointer (some p))) :
    (ReflectliteValue.method (ReflectliteValue.valueError "reflectlite.Value.IsNil" 0) ReflectliteValue.isNil #[.agg #[.pointer (some ⟨14, 67, none⟩), .pointer (some a), .int .u64 150]]).run Tryz.prog W = .ok (.bool false) W := by
  rw [rlm]
  simp only [Sem.run_bind, parts67, Result.andThen]
  simp [ReflectliteValue.isNil, loadVar, isAgg, underlying, Tryz.underlying67, ha, Result.andThen]
theorem elem67 (w : World) : (ReflectliteType.method ReflectliteType.elem #[.agg #[.pointer (some ⟨14, 67, none⟩)]]).run Tryz.prog w = .ok (.iface 111 (.agg #[.pointer (some ⟨14, 62, none⟩)])) w := by kernel_rfl
theorem implements62 (w : World) : (ReflectliteType.relation "Implements" ReflectliteType.implements_ #[.agg #[.pointer (some ⟨14, 62, none⟩)], .iface 111 (.agg #[.pointer (some ⟨14, 54, none⟩)])]).run Tryz.prog w = .ok (.bool true) w := by kernel_rfl
theorem typeOf62 (v : Value) (w : World) : (ReflectliteType.typeOf #[.iface 62 v]).run Tryz.prog w = .ok (.iface 111 (.agg #[.pointer (some ⟨14, 62, none⟩)])) w := by kernel_rfl
theorem assignable62 (w : World) : (ReflectliteType.relation "AssignableTo" ReflectliteType.assignableTo #[.agg #[.pointer (some ⟨14, 62, none⟩)], .iface 111 (.agg #[.pointer (some ⟨14, 62, none⟩)])]).run Tryz.prog w = .ok (.bool true) w := by kernel_rfl
theorem valueOf62 (n : Int) (w : World) : (ReflectliteValue.unpack (.iface 62 (.int .u8 n))).run Tryz.prog w
    = .ok (.agg #[.pointer (some ⟨14, 62, none⟩), .pointer (some ⟨w.heap.size, 0, none⟩), .int .u64 136]) (w.alloc (.cells #[.int .u8 n] 62)) := by kernel_rfl
theorem elemOf67 (w : World) : (Rtype.elem? 67).run Tryz.prog w = .ok (some 62) w := by kernel_rfl
theorem mk62 (p : Addr) (w : World) : (ReflectliteValue.mk 62 p ReflectliteValue.flagAddr).run Tryz.prog w = .ok (.agg #[.pointer (some ⟨14, 62, none⟩), .pointer (some p), .int .u64 392]) w := by kernel_rfl
theorem elemV67 (a p : Addr) (W : World) (ha : W.cell? a = some (.pointer (some p))) :
    (ReflectliteValue.method (ReflectliteValue.valueError "reflectlite.Value.Elem" 0) ReflectliteValue.elem #[.agg #[.pointer (some ⟨14, 67, none⟩), .pointer (some a), .int .u64 150]]).run Tryz.prog W
      = .ok (.agg #[.pointer (some ⟨14, 62, none⟩), .pointer (some p), .int .u64 392]) W := by
  rw [rlm]
  simp only [Sem.run_bind, parts67, Result.andThen]
  simp [ReflectliteValue.elem, loadVar, isAgg, underlying, Tryz.underlying67, ha, Result.andThen, elemOf67, mk62]
theorem parts62a (a : Addr) (w : World) : (ReflectliteValue.parts (.agg #[.pointer (some ⟨14, 62, none⟩), .pointer (some a), .int .u64 392])).run Tryz.prog w = .ok (some (62, a, 392)) w := by kernel_rfl
theorem parts62 (a : Addr) (w : World) : (ReflectliteValue.parts (.agg #[.pointer (some ⟨14, 62, none⟩), .pointer (some a), .int .u64 136])).run Tryz.prog w = .ok (some (62, a, 136)) w := by kernel_rfl
theorem direct62 (w : World) : (Rtype.directlyAssignable 62 62).run Tryz.prog w = .ok true w := by kernel_rfl
theorem size62 (w : World) : (sizeOf 62).run Tryz.prog w = .ok 1 w := by kernel_rfl
theorem set62 (ta b : Addr) (n : Int) (old : Value) (W : World) (hb : W.cell? b = some (.int .u8 n)) (ht : W.cell? ta = some old) (hf : W.frozen? ta = false) :
    (ReflectliteValue.set #[.agg #[.pointer (some ⟨14, 62, none⟩), .pointer (some ta), .int .u64 392], .agg #[.pointer (some ⟨14, 62, none⟩), .pointer (some b), .int .u64 136]]).run Tryz.prog W
      = .ok (.tuple #[]) (W.setCell ta (.int .u8 n)) := by
  rw [rls]
  simp only [Sem.run_bind, parts62a, parts62, Result.andThen]
  simp [ReflectliteValue.flagAddr, loadVar, isAgg, underlying, Tryz.underlying62, hb, Result.andThen, direct62, storeVar, Value.cells, storeCells, Addr.add]
  rw [run_store Tryz.prog W ta _ _ (by rfl)]
  simp [ht, hf]
theorem valueOf68 (t : Addr) (w : World) : (ReflectliteValue.unpack (.iface 68 (.pointer (some t)))).run Tryz.prog w
    = .ok (.agg #[.pointer (some ⟨14, 68, none⟩), .pointer (some ⟨w.heap.size, 0, none⟩), .int .u64 150]) (w.alloc (.cells #[.pointer (some t)] 68)) := by kernel_rfl
theorem type68 (a : Addr) (w : World) : (ReflectliteValue.methodAny (ReflectliteValue.valueError "reflectlite.Value.Type" 0) (fun t _ _ _ => ReflectliteType.toType t) #[.agg #[.pointer (some ⟨14, 68, none⟩), .pointer (some a), .int .u64 150]]).run Tryz.prog w
    = .ok (.iface 111 (.agg #[.pointer (some ⟨14, 68, none⟩)])) w := by kernel_rfl
theorem kind68 (w : World) : ((ReflectliteType.abiMethod fun t => (fun a : Nat => Value.int IntKind.u8 (a : Int)) <$> Rtype.kind t) #[.pointer (some ⟨14, 68, none⟩)]).run Tryz.prog w = .ok (.int .u8 22) w := by kernel_rfl
theorem kind63 (w : World) : ((ReflectliteType.abiMethod fun t => (fun a : Nat => Value.int IntKind.u8 (a : Int)) <$> Rtype.kind t) #[.pointer (some ⟨14, 63, none⟩)]).run Tryz.prog w = .ok (.int .u8 8) w := by kernel_rfl
theorem parts68 (a : Addr) (w : World) : (ReflectliteValue.parts (.agg #[.pointer (some ⟨14, 68, none⟩), .pointer (some a), .int .u64 150])).run Tryz.prog w = .ok (some (68, a, 150)) w := by kernel_rfl
theorem isNil68 (a p : Addr) (W : World) (ha : W.cell? a = some (.pointer (some p))) :
    (ReflectliteValue.method (ReflectliteValue.valueError "reflectlite.Value.IsNil" 0) ReflectliteValue.isNil #[.agg #[.pointer (some ⟨14, 68, none⟩), .pointer (some a), .int .u64 150]]).run Tryz.prog W = .ok (.bool false) W := by
  rw [rlm]
  simp only [Sem.run_bind, parts68, Result.andThen]
  simp [ReflectliteValue.isNil, loadVar, isAgg, underlying, Tryz.underlying68, ha, Result.andThen]
theorem elem68 (w : World) : (ReflectliteType.method ReflectliteType.elem #[.agg #[.pointer (some ⟨14, 68, none⟩)]]).run Tryz.prog w = .ok (.iface 111 (.agg #[.pointer (some ⟨14, 63, none⟩)])) w := by kernel_rfl
theorem implements63 (w : World) : (ReflectliteType.relation "Implements" ReflectliteType.implements_ #[.agg #[.pointer (some ⟨14, 63, none⟩)], .iface 111 (.agg #[.pointer (some ⟨14, 54, none⟩)])]).run Tryz.prog w = .ok (.bool true) w := by kernel_rfl
theorem typeOf63 (v : Value) (w : World) : (ReflectliteType.typeOf #[.iface 63 v]).run Tryz.prog w = .ok (.iface 111 (.agg #[.pointer (some ⟨14, 63, none⟩)])) w := by kernel_rfl
theorem assignable63 (w : World) : (ReflectliteType.relation "AssignableTo" ReflectliteType.assignableTo #[.agg #[.pointer (some ⟨14, 63, none⟩)], .iface 111 (.agg #[.pointer (some ⟨14, 63, none⟩)])]).run Tryz.prog w = .ok (.bool true) w := by kernel_rfl
theorem valueOf63 (n : Int) (w : World) : (ReflectliteValue.unpack (.iface 63 (.int .u8 n))).run Tryz.prog w
    = .ok (.agg #[.pointer (some ⟨14, 63, none⟩), .pointer (some ⟨w.heap.size, 0, none⟩), .int .u64 136]) (w.alloc (.cells #[.int .u8 n] 63)) := by kernel_rfl
theorem elemOf68 (w : World) : (Rtype.elem? 68).run Tryz.prog w = .ok (some 63) w := by kernel_rfl
theorem mk63 (p : Addr) (w : World) : (ReflectliteValue.mk 63 p ReflectliteValue.flagAddr).run Tryz.prog w = .ok (.agg #[.pointer (some ⟨14, 63, none⟩), .pointer (some p), .int .u64 392]) w := by kernel_rfl
theorem elemV68 (a p : Addr) (W : World) (ha : W.cell? a = some (.pointer (some p))) :
    (ReflectliteValue.method (ReflectliteValue.valueError "reflectlite.Value.Elem" 0) ReflectliteValue.elem #[.agg #[.pointer (some ⟨14, 68, none⟩), .pointer (some a), .int .u64 150]]).run Tryz.prog W
      = .ok (.agg #[.pointer (some ⟨14, 63, none⟩), .pointer (some p), .int .u64 392]) W := by
  rw [rlm]
  simp only [Sem.run_bind, parts68, Result.andThen]
  simp [ReflectliteValue.elem, loadVar, isAgg, underlying, Tryz.underlying68, ha, Result.andThen, elemOf68, mk63]
theorem parts63a (a : Addr) (w : World) : (ReflectliteValue.parts (.agg #[.pointer (some ⟨14, 63, none⟩), .pointer (some a), .int .u64 392])).run Tryz.prog w = .ok (some (63, a, 392)) w := by kernel_rfl
theorem parts63 (a : Addr) (w : World) : (ReflectliteValue.parts (.agg #[.pointer (some ⟨14, 63, none⟩), .pointer (some a), .int .u64 136])).run Tryz.prog w = .ok (some (63, a, 136)) w := by kernel_rfl
theorem direct63 (w : World) : (Rtype.directlyAssignable 63 63).run Tryz.prog w = .ok true w := by kernel_rfl
theorem size63 (w : World) : (sizeOf 63).run Tryz.prog w = .ok 1 w := by kernel_rfl
theorem set63 (ta b : Addr) (n : Int) (old : Value) (W : World) (hb : W.cell? b = some (.int .u8 n)) (ht : W.cell? ta = some old) (hf : W.frozen? ta = false) :
    (ReflectliteValue.set #[.agg #[.pointer (some ⟨14, 63, none⟩), .pointer (some ta), .int .u64 392], .agg #[.pointer (some ⟨14, 63, none⟩), .pointer (some b), .int .u64 136]]).run Tryz.prog W
      = .ok (.tuple #[]) (W.setCell ta (.int .u8 n)) := by
  rw [rls]
  simp only [Sem.run_bind, parts63a, parts63, Result.andThen]
  simp [ReflectliteValue.flagAddr, loadVar, isAgg, underlying, Tryz.underlying63, hb, Result.andThen, direct63, storeVar, Value.cells, storeCells, Addr.add]
  rw [run_store Tryz.prog W ta _ _ (by rfl)]
  simp [ht, hf]
theorem valueOf69 (t : Addr) (w : World) : (ReflectliteValue.unpack (.iface 69 (.pointer (some t)))).run Tryz.prog w
    = .ok (.agg #[.pointer (some ⟨14, 69, none⟩), .pointer (some ⟨w.heap.size, 0, none⟩), .int .u64 150]) (w.alloc (.cells #[.pointer (some t)] 69)) := by kernel_rfl
theorem type69 (a : Addr) (w : World) : (ReflectliteValue.methodAny (ReflectliteValue.valueError "reflectlite.Value.Type" 0) (fun t _ _ _ => ReflectliteType.toType t) #[.agg #[.pointer (some ⟨14, 69, none⟩), .pointer (some a), .int .u64 150]]).run Tryz.prog w
    = .ok (.iface 111 (.agg #[.pointer (some ⟨14, 69, none⟩)])) w := by kernel_rfl
theorem kind69 (w : World) : ((ReflectliteType.abiMethod fun t => (fun a : Nat => Value.int IntKind.u8 (a : Int)) <$> Rtype.kind t) #[.pointer (some ⟨14, 69, none⟩)]).run Tryz.prog w = .ok (.int .u8 22) w := by kernel_rfl
theorem kind64 (w : World) : ((ReflectliteType.abiMethod fun t => (fun a : Nat => Value.int IntKind.u8 (a : Int)) <$> Rtype.kind t) #[.pointer (some ⟨14, 64, none⟩)]).run Tryz.prog w = .ok (.int .u8 2) w := by kernel_rfl
theorem parts69 (a : Addr) (w : World) : (ReflectliteValue.parts (.agg #[.pointer (some ⟨14, 69, none⟩), .pointer (some a), .int .u64 150])).run Tryz.prog w = .ok (some (69, a, 150)) w := by kernel_rfl
theorem isNil69 (a p : Addr) (W : World) (ha : W.cell? a = some (.pointer (some p))) :
    (ReflectliteValue.method (ReflectliteValue.valueError "reflectlite.Value.IsNil" 0) ReflectliteValue.isNil #[.agg #[.pointer (some ⟨14, 69, none⟩), .pointer (some a), .int .u64 150]]).run Tryz.prog W = .ok (.bool false) W := by
  rw [rlm]
  simp only [Sem.run_bind, parts69, Result.andThen]
  simp [ReflectliteValue.isNil, loadVar, isAgg, underlying, Tryz.underlying69, ha, Result.andThen]
theorem elem69 (w : World) : (ReflectliteType.method ReflectliteType.elem #[.agg #[.pointer (some ⟨14, 69, none⟩)]]).run Tryz.prog w = .ok (.iface 111 (.agg #[.pointer (some ⟨14, 64, none⟩)])) w := by kernel_rfl
theorem implements64 (w : World) : (ReflectliteType.relation "Implements" ReflectliteType.implements_ #[.agg #[.pointer (some ⟨14, 64, none⟩)], .iface 111 (.agg #[.pointer (some ⟨14, 54, none⟩)])]).run Tryz.prog w = .ok (.bool true) w := by kernel_rfl
theorem typeOf64 (v : Value) (w : World) : (ReflectliteType.typeOf #[.iface 64 v]).run Tryz.prog w = .ok (.iface 111 (.agg #[.pointer (some ⟨14, 64, none⟩)])) w := by kernel_rfl
theorem assignable64 (w : World) : (ReflectliteType.relation "AssignableTo" ReflectliteType.assignableTo #[.agg #[.pointer (some ⟨14, 64, none⟩)], .iface 111 (.agg #[.pointer (some ⟨14, 64, none⟩)])]).run Tryz.prog w = .ok (.bool true) w := by kernel_rfl
theorem valueOf64 (n : Int) (w : World) : (ReflectliteValue.unpack (.iface 64 (.int .i64 n))).run Tryz.prog w
    = .ok (.agg #[.pointer (some ⟨14, 64, none⟩), .pointer (some ⟨w.heap.size, 0, none⟩), .int .u64 130]) (w.alloc (.cells #[.int .i64 n] 64)) := by kernel_rfl
theorem elemOf69 (w : World) : (Rtype.elem? 69).run Tryz.prog w = .ok (some 64) w := by kernel_rfl
theorem mk64 (p : Addr) (w : World) : (ReflectliteValue.mk 64 p ReflectliteValue.flagAddr).run Tryz.prog w = .ok (.agg #[.pointer (some ⟨14, 64, none⟩), .pointer (some p), .int .u64 386]) w := by kernel_rfl
theorem elemV69 (a p : Addr) (W : World) (ha : W.cell? a = some (.pointer (some p))) :
    (ReflectliteValue.method (ReflectliteValue.valueError "reflectlite.Value.Elem" 0) ReflectliteValue.elem #[.agg #[.pointer (some ⟨14, 69, none⟩), .pointer (some a), .int .u64 150]]).run Tryz.prog W
      = .ok (.agg #[.pointer (some ⟨14, 64, none⟩), .pointer (some p), .int .u64 386]) W := by
  rw [rlm]
  simp only [Sem.run_bind, parts69, Result.andThen]
  simp [ReflectliteValue.elem, loadVar, isAgg, underlying, Tryz.underlying69, ha, Result.andThen, elemOf69, mk64]
theorem parts64a (a : Addr) (w : World) : (ReflectliteValue.parts (.agg #[.pointer (some ⟨14, 64, none⟩), .pointer (some a), .int .u64 386])).run Tryz.prog w = .ok (some (64, a, 386)) w := by kernel_rfl
theorem parts64 (a : Addr) (w : World) : (ReflectliteValue.parts (.agg #[.pointer (some ⟨14, 64, none⟩), .pointer (some a), .int .u64 130])).run Tryz.prog w = .ok (some (64, a, 130)) w := by kernel_rfl
theorem direct64 (w : World) : (Rtype.directlyAssignable 64 64).run Tryz.prog w = .ok true w := by kernel_rfl
theorem size64 (w : World) : (sizeOf 64).run Tryz.prog w = .ok 1 w := by kernel_rfl
theorem set64 (ta b : Addr) (n : Int) (old : Value) (W : World) (hb : W.cell? b = some (.int .i64 n)) (ht : W.cell? ta = some old) (hf : W.frozen? ta = false) :
    (ReflectliteValue.set #[.agg #[.pointer (some ⟨14, 64, none⟩), .pointer (some ta), .int .u64 386], .agg #[.pointer (some ⟨14, 64, none⟩), .pointer (some b), .int .u64 130]]).run Tryz.prog W
      = .ok (.tuple #[]) (W.setCell ta (.int .i64 n)) := by
  rw [rls]
  simp only [Sem.run_bind, parts64a, parts64, Result.andThen]
  simp [ReflectliteValue.flagAddr, loadVar, isAgg, underlying, Tryz.underlying64, hb, Result.andThen, direct64, storeVar, Value.cells, storeCells, Addr.add]
  rw [run_store Tryz.prog W ta _ _ (by rfl)]
  simp [ht, hf]
set_option maxHeartbeats 4000000 in
theorem as_hit62 (n : Int) (t : Addr) (old : Value) (w : World) (hg : w.cell? ⟨7, 0, none⟩ = some (.iface 111 (.agg #[.pointer (some ⟨14, 54, none⟩)]))) (ht0 : w.cell? t = some old) (hf0 : w.frozen? t = false) :
    Calls Tryz.prog 32 #[.iface 62 (.int .u8 n), .iface 67 (.pointer (some t))] w fun ev w' => ev = .returned (.bool true) ∧ But (· = t.block) w w' := by
  have h44 := ext44
  have h45 := ext45
  have h46 := ext46
  have h123 := ext123
  have h136 := ext136
  have h137 := ext137
  have h42 := ext42
  have h134 := ext134
  have tO := typeOf62
  have mA := methodAssignableTo
  have f44 := valueOf67
  have f45 := type67
  have mK := methodKind
  have mE := methodElem
  have mI := methodImplements
  have kP := kind67
  have kT := kind62
  have eP := elem67
  have iT := implements62
  have n8 := isNil67 ⟨w.heap.size, 0, none⟩ t ((w.alloc (.cells #[.pointer (some t)] 67)).alloc (.cells #[.pointer (some ⟨14, 67, none⟩), .pointer (some ⟨w.heap.size, 0, none⟩), .int .u64 150] 89)) (by simp)
  have hlt : 7 < w.heap.size := World.block_lt_of_cell? _ _ hg
  have hg2 : ((w.alloc (.cells #[.pointer (some t)] 67)).alloc (.cells #[.pointer (some ⟨14, 67, none⟩), .pointer (some ⟨w.heap.size, 0, none⟩), .int .u64 150] 89)).cell? ⟨7, 0, none⟩ = some (.iface 111 (.agg #[.pointer (some ⟨14, 54, none⟩)])) := by
    rw [World.cell?_alloc_lt _ _ ⟨7, 0, none⟩ (by simp; omega), World.cell?_alloc_lt _ _ ⟨7, 0, none⟩ hlt]; exact hg
  have h60 := ext60
  have h61 := ext61
  have aT := assignable62
  have vT := valueOf62
  have htl : t.block < w.heap.size := World.block_lt_of_cell? _ _ ht0
  have el := elemV67 ⟨w.heap.size, 0, none⟩ t (((w.alloc (.cells #[.pointer (some t)] 67)).alloc (.cells #[.pointer (some ⟨14, 67, none⟩), .pointer (some ⟨w.heap.size, 0, none⟩), .int .u64 150] 89)).alloc (.cells #[.pointer (some ⟨14, 67, none⟩), .pointer (some ⟨w.heap.size, 0, none⟩), .int .u64 150] 89)) (by rw [World.cell?_alloc_lt _ _ ⟨w.heap.size, 0, none⟩ (by simp; omega)]; simp)
  have st := set62 t ⟨w.heap.size + 1 + 1 + 1, 0, none⟩ n old ((((w.alloc (.cells #[.pointer (some t)] 67)).alloc (.cells #[.pointer (some ⟨14, 67, none⟩), .pointer (some ⟨w.heap.size, 0, none⟩), .int .u64 150] 89)).alloc (.cells #[.pointer (some ⟨14, 67, none⟩), .pointer (some ⟨w.heap.size, 0, none⟩), .int .u64 150] 89)).alloc (.cells #[.int .u8 n] 62))
    (by rw [World.cell?_alloc_at _ _ _ _ (by simp)]; rfl)
    (by rw [World.cell?_alloc_lt _ _ t (by simp; omega), World.cell?_alloc_lt _ _ t (by simp; omega), World.cell?_alloc_lt _ _ t (by simp; omega), World.cell?_alloc_lt _ _ t htl]; exact ht0)
    (by rw [World.frozen?_alloc_old _ _ t (by simp; omega), World.frozen?_alloc_old _ _ t (by simp; omega), World.frozen?_alloc_old _ _ t (by simp; omega), World.frozen?_alloc_old _ _ t (Nat.ne_of_lt htl)]; exact hf0)
  go_enter Tryz.func32, Tryz.ntmps32
  go_wp2
  refine wp_loop_rounds 1 ?_
  rw [rounds_succ]
  go_wp2
  go_ret
  exact ⟨rfl, But.setCell (p := t) (((((But.refl (fun k => k = t.block) w).alloc _).alloc _).alloc _).alloc _) (fun _ => rfl) _⟩
set_option maxHeartbeats 4000000 in
theorem as_hit63 (n : Int) (t : Addr) (old : Value) (w : World) (hg : w.cell? ⟨7, 0, none⟩ = some (.iface 111 (.agg #[.pointer (some ⟨14, 54, none⟩)]))) (ht0 : w.cell? t = some old) (hf0 : w.frozen? t = false) :
    Calls Tryz.prog 32 #[.iface 63 (.int .u8 n), .iface 68 (.pointer (some t))] w fun ev w' => ev = .returned (.bool true) ∧ But (· = t.block) w w' := by
  have h44 := ext44
  have h45 := ext45
  have h46 := ext46
  have h123 := ext123
  have h136 := ext136
  have h137 := ext137
  have h42 := ext42
  have h134 := ext134
  have tO := typeOf63
  have mA := methodAssignableTo
  have f44 := valueOf68
  have f45 := type68
  have mK := methodKind
  have mE := methodElem
  have mI := methodImplements
  have kP := kind68
  have kT := kind63
  have eP := elem68
  have iT := implements63
  have n8 := isNil68 ⟨w.heap.size, 0, none⟩ t ((w.alloc (.cells #[.pointer (some t)] 68)).alloc (.cells #[.pointer (some ⟨14, 68, none⟩), .pointer (some ⟨w.heap.size, 0, none⟩), .int .u64 150] 89)) (by simp)
  have hlt : 7 < w.heap.size := World.block_lt_of_cell? _ _ hg
  have hg2 : ((w.alloc (.cells #[.pointer (some t)] 68)).alloc (.cells #[.pointer (some ⟨14, 68, none⟩), .pointer (some ⟨w.heap.size, 0, none⟩), .int .u64 150] 89)).cell? ⟨7, 0, none⟩ = some (.iface 111 (.agg #[.pointer (some ⟨14, 54, none⟩)])) := by
    rw [World.cell?_alloc_lt _ _ ⟨7, 0, none⟩ (by simp; omega), World.cell?_alloc_lt _ _ ⟨7, 0, none⟩ hlt]; exact hg
  have h60 := ext60
  have h61 := ext61
  have aT := assignable63
  have vT := valueOf63
  have htl : t.block < w.heap.size := World.block_lt_of_cell? _ _ ht0
  have el := elemV68 ⟨w.heap.size, 0, none⟩ t (((w.alloc (.cells #[.pointer (some t)] 68)).alloc (.cells #[.pointer (some ⟨14, 68, none⟩), .pointer (some ⟨w.heap.size, 0, none⟩), .int .u64 150] 89)).alloc (.cells #[.pointer (some ⟨14, 68, none⟩), .pointer (some ⟨w.heap.size, 0, none⟩), .int .u64 150] 89)) (by rw [World.cell?_alloc_lt _ _ ⟨w.heap.size, 0, none⟩ (by simp; omega)]; simp)
  have st := set63 t ⟨w.heap.size + 1 + 1 + 1, 0, none⟩ n old ((((w.alloc (.cells #[.pointer (some t)] 68)).alloc (.cells #[.pointer (some ⟨14, 68, none⟩), .pointer (some ⟨w.heap.size, 0, none⟩), .int .u64 150] 89)).alloc (.cells #[.pointer (some ⟨14, 68, none⟩), .pointer (some ⟨w.heap.size, 0, none⟩), .int .u64 150] 89)).alloc (.cells #[.int .u8 n] 63))
    (by rw [World.cell?_alloc_at _ _ _ _ (by simp)]; rfl)
    (by rw [World.cell?_alloc_lt _ _ t (by simp; omega), World.cell?_alloc_lt _ _ t (by simp; omega), World.cell?_alloc_lt _ _ t (by simp; omega), World.cell?_alloc_lt _ _ t htl]; exact ht0)
    (by rw [World.frozen?_alloc_old _ _ t (by simp; omega), World.frozen?_alloc_old _ _ t (by simp; omega), World.frozen?_alloc_old _ _ t (by simp; omega), World.frozen?_alloc_old _ _ t (Nat.ne_of_lt htl)]; exact hf0)
  go_enter Tryz.func32, Tryz.ntmps32
  go_wp2
  refine wp_loop_rounds 1 ?_
  rw [rounds_succ]
  go_wp2
  go_ret
  exact ⟨rfl, But.setCell (p := t) (((((But.refl (fun k => k = t.block) w).alloc _).alloc _).alloc _).alloc _) (fun _ => rfl) _⟩
set_option maxHeartbeats 4000000 in
theorem as_hit64 (n : Int) (t : Addr) (old : Value) (w : World) (hg : w.cell? ⟨7, 0, none⟩ = some (.iface 111 (.agg #[.pointer (some ⟨14, 54, none⟩)]))) (ht0 : w.cell? t = some old) (hf0 : w.frozen? t = false) :
    Calls Tryz.prog 32 #[.iface 64 (.int .i64 n), .iface 69 (.pointer (some t))] w fun ev w' => ev = .returned (.bool true) ∧ But (· = t.block) w w' := by
  have h44 := ext44
  have h45 := ext45
  have h46 := ext46
  have h123 := ext123
  have h136 := ext136
  have h137 := ext137
  have h42 := ext42
  have h134 := ext134
  have tO := typeOf64
  have mA := methodAssignableTo
  have f44 := valueOf69
  have f45 := type69
  have mK := methodKind
  have mE := methodElem
  have mI := methodImplements
  have kP := kind69
  have kT := kind64
  have eP := elem69
  have iT := implements64
  have n8 := isNil69 ⟨w.heap.size, 0, none⟩ t ((w.alloc (.cells #[.pointer (some t)] 69)).alloc (.cells #[.pointer (some ⟨14, 69, none⟩), .pointer (some ⟨w.heap.size, 0, none⟩), .int .u64 150] 89)) (by simp)
  have hlt : 7 < w.heap.size := World.block_lt_of_cell? _ _ hg
  have hg2 : ((w.alloc (.cells #[.pointer (some t)] 69)).alloc (.cells #[.pointer (some ⟨14, 69, none⟩), .pointer (some ⟨w.heap.size, 0, none⟩), .int .u64 150] 89)).cell? ⟨7, 0, none⟩ = some (.iface 111 (.agg #[.pointer (some ⟨14, 54, none⟩)])) := by
    rw [World.cell?_alloc_lt _ _ ⟨7, 0, none⟩ (by simp; omega), World.cell?_alloc_lt _ _ ⟨7, 0, none⟩ hlt]; exact hg
  have h60 := ext60
  have h61 := ext61
  have aT := assignable64
  have vT := valueOf64
  have htl : t.block < w.heap.size := World.block_lt_of_cell? _ _ ht0
  have el := elemV69 ⟨w.heap.size, 0, none⟩ t (((w.alloc (.cells #[.pointer (some t)] 69)).alloc (.cells #[.pointer (some ⟨14, 69, none⟩), .pointer (some ⟨w.heap.size, 0, none⟩), .int .u64 150] 89)).alloc (.cells #[.pointer (some ⟨14, 69, none⟩), .pointer (some ⟨w.heap.size, 0, none⟩), .int .u64 150] 89)) (by rw [World.cell?_alloc_lt _ _ ⟨w.heap.size, 0, none⟩ (by simp; omega)]; simp)
  have st := set64 t ⟨w.heap.size + 1 + 1 + 1, 0, none⟩ n old ((((w.alloc (.cells #[.pointer (some t)] 69)).alloc (.cells #[.pointer (some ⟨14, 69, none⟩), .pointer (some ⟨w.heap.size, 0, none⟩), .int .u64 150] 89)).alloc (.cells #[.pointer (some ⟨14, 69, none⟩), .pointer (some ⟨w.heap.size, 0, none⟩), .int .u64 150] 89)).alloc (.cells #[.int .i64 n] 64))
    (by rw [World.cell?_alloc_at _ _ _ _ (by simp)]; rfl)
    (by rw [World.cell?_alloc_lt _ _ t (by simp; omega), World.cell?_alloc_lt _ _ t (by simp; omega), World.cell?_alloc_lt _ _ t (by simp; omega), World.cell?_alloc_lt _ _ t htl]; exact ht0)
    (by rw [World.frozen?_alloc_old _ _ t (by simp; omega), World.frozen?_alloc_old _ _ t (by simp; omega), World.frozen?_alloc_old _ _ t (by simp; omega), World.frozen?_alloc_old _ _ t (Nat.ne_of_lt htl)]; exact hf0)
  go_enter Tryz.func32, Tryz.ntmps32
  go_wp2
  refine wp_loop_rounds 1 ?_
  rw [rounds_succ]
  go_wp2
  go_ret
  exact ⟨rfl, But.setCell (p := t) (((((But.refl (fun k => k = t.block) w).alloc _).alloc _).alloc _).alloc _) (fun _ => rfl) _⟩
theorem notAssignable63_62 (w : World) : (ReflectliteType.relation "AssignableTo" ReflectliteType.assignableTo #[.agg #[.pointer (some ⟨14, 63, none⟩)], .iface 111 (.agg #[.pointer (some ⟨14, 62, none⟩)])]).run Tryz.prog w = .ok (.bool false) w := by kernel_rfl
set_option maxHeartbeats 4000000 in
theorem as_miss63_62 (v : Value) (t : Addr) (w : World) (hg : w.cell? ⟨7, 0, none⟩ = some (.iface 111 (.agg #[.pointer (some ⟨14, 54, none⟩)]))) :
    Calls Tryz.prog 32 #[.iface 63 v, .iface 67 (.pointer (some t))] w fun ev w' => ev = .returned (.bool false) ∧ But (fun _ => False) w w' := by
  have h44 := ext44
  have h45 := ext45
  have h46 := ext46
  have h123 := ext123
  have h136 := ext136
  have h137 := ext137
  have h42 := ext42
  have h134 := ext134
  have tO := typeOf63
  have mA := methodAssignableTo
  have f44 := valueOf67
  have f45 := type67
  have mK := methodKind
  have mE := methodElem
  have mI := methodImplements
  have kP := kind67
  have kT := kind62
  have eP := elem67
  have iT := implements62
  have n8 := isNil67 ⟨w.heap.size, 0, none⟩ t ((w.alloc (.cells #[.pointer (some t)] 67)).alloc (.cells #[.pointer (some ⟨14, 67, none⟩), .pointer (some ⟨w.heap.size, 0, none⟩), .int .u64 150] 89)) (by simp)
  have hlt : 7 < w.heap.size := World.block_lt_of_cell? _ _ hg
  have hg2 : ((w.alloc (.cells #[.pointer (some t)] 67)).alloc (.cells #[.pointer (some ⟨14, 67, none⟩), .pointer (some ⟨w.heap.size, 0, none⟩), .int .u64 150] 89)).cell? ⟨7, 0, none⟩ = some (.iface 111 (.agg #[.pointer (some ⟨14, 54, none⟩)])) := by
    rw [World.cell?_alloc_lt _ _ ⟨7, 0, none⟩ (by simp; omega), World.cell?_alloc_lt _ _ ⟨7, 0, none⟩ hlt]; exact hg
  have aT := notAssignable63_62
  have n1 := noAs63
  have n2 := noUnwrap63
  have n3 := noUnwraps63
  go_enter Tryz.func32, Tryz.ntmps32
  go_wp2
  refine wp_loop_rounds 1 ?_
  rw [rounds_succ]
  go_wp2
  go_ret
  exact ⟨rfl, ((((But.refl _ w).alloc _).alloc _).alloc _)⟩
theorem notAssignable64_62 (w : World) : (ReflectliteType.relation "AssignableTo" ReflectliteType.assignableTo #[.agg #[.pointer (some ⟨14, 64, none⟩)], .iface 111 (.agg #[.pointer (some ⟨14, 62, none⟩)])]).run Tryz.prog w = .ok (.bool false) w := by kernel_rfl
set_option maxHeartbeats 4000000 in
theorem as_miss64_62 (v : Value) (t : Addr) (w : World) (hg : w.cell? ⟨7, 0, none⟩ = some (.iface 111 (.agg #[.pointer (some ⟨14, 54, none⟩)]))) :
    Calls Tryz.prog 32 #[.iface 64 v, .iface 67 (.pointer (some t))] w fun ev w' => ev = .returned (.bool false) ∧ But (fun _ => False) w w' := by
  have h44 := ext44
  have h45 := ext45
  have h46 := ext46
  have h123 := ext123
  have h136 := ext136
  have h137 := ext137
  have h42 := ext42
  have h134 := ext134
  have tO := typeOf64
  have mA := methodAssignableTo
  have f44 := valueOf67
  have f45 := type67
  have mK := methodKind
  have mE := methodElem
  have mI := methodImplements
  have kP := kind67
  have kT := kind62
  have eP := elem67
  have iT := implements62
  have n8 := isNil67 ⟨w.heap.size, 0, none⟩ t ((w.alloc (.cells #[.pointer (some t)] 67)).alloc (.cells #[.pointer (some ⟨14, 67, none⟩), .pointer (some ⟨w.heap.size, 0, none⟩), .int .u64 150] 89)) (by simp)
  have hlt : 7 < w.heap.size := World.block_lt_of_cell? _ _ hg
  have hg2 : ((w.alloc (.cells #[.pointer (some t)] 67)).alloc (.cells #[.pointer (some ⟨14, 67, none⟩), .pointer (some ⟨w.heap.size, 0, none⟩), .int .u64 150] 89)).cell? ⟨7, 0, none⟩ = some (.iface 111 (.agg #[.pointer (some ⟨14, 54, none⟩)])) := by
    rw [World.cell?_alloc_lt _ _ ⟨7, 0, none⟩ (by simp; omega), World.cell?_alloc_lt _ _ ⟨7, 0, none⟩ hlt]; exact hg
  have aT := notAssignable64_62
  have n1 := noAs64
  have n2 := noUnwrap64
  have n3 := noUnwraps64
  go_enter Tryz.func32, Tryz.ntmps32
  go_wp2
  refine wp_loop_rounds 1 ?_
  rw [rounds_succ]
  go_wp2
  go_ret
  exact ⟨rfl, ((((But.refl _ w).alloc _).alloc _).alloc _)⟩
theorem notAssignable64_63 (w : World) : (ReflectliteType.relation "AssignableTo" ReflectliteType.assignableTo #[.agg #[.pointer (some ⟨14, 64, none⟩)], .iface 111 (.agg #[.pointer (some ⟨14, 63, none⟩)])]).run Tryz.prog w = .ok (.bool false) w := by kernel_rfl
set_option maxHeartbeats 4000000 in
theorem as_miss64_63 (v : Value) (t : Addr) (w : World) (hg : w.cell? ⟨7, 0, none⟩ = some (.iface 111 (.agg #[.pointer (some ⟨14, 54, none⟩)]))) :
    Calls Tryz.prog 32 #[.iface 64 v, .iface 68 (.pointer (some t))] w fun ev w' => ev = .returned (.bool false) ∧ But (fun _ => False) w w' := by
  have h44 := ext44
  have h45 := ext45
  have h46 := ext46
  have h123 := ext123
  have h136 := ext136
  have h137 := ext137
  have h42 := ext42
  have h134 := ext134
  have tO := typeOf64
  have mA := methodAssignableTo
  have f44 := valueOf68
  have f45 := type68
  have mK := methodKind
  have mE := methodElem
  have mI := methodImplements
  have kP := kind68
  have kT := kind63
  have eP := elem68
  have iT := implements63
  have n8 := isNil68 ⟨w.heap.size, 0, none⟩ t ((w.alloc (.cells #[.pointer (some t)] 68)).alloc (.cells #[.pointer (some ⟨14, 68, none⟩), .pointer (some ⟨w.heap.size, 0, none⟩), .int .u64 150] 89)) (by simp)
  have hlt : 7 < w.heap.size := World.block_lt_of_cell? _ _ hg
  have hg2 : ((w.alloc (.cells #[.pointer (some t)] 68)).alloc (.cells #[.pointer (some ⟨14, 68, none⟩), .pointer (some ⟨w.heap.size, 0, none⟩), .int .u64 150] 89)).cell? ⟨7, 0, none⟩ = some (.iface 111 (.agg #[.pointer (some ⟨14, 54, none⟩)])) := by
    rw [World.cell?_alloc_lt _ _ ⟨7, 0, none⟩ (by simp; omega), World.cell?_alloc_lt _ _ ⟨7, 0, none⟩ hlt]; exact hg
  have aT := notAssignable64_63
  have n1 := noAs64
  have n2 := noUnwrap64
  have n3 := noUnwraps64
  go_enter Tryz.func32, Tryz.ntmps32
  go_wp2
  refine wp_loop_rounds 1 ?_
  rw [rounds_succ]
  go_wp2
  go_ret
  exact ⟨rfl, ((((But.refl _ w).alloc _).alloc _).alloc _)⟩
end Go.Proofs.YthnhdfgonpbldaaGreatDoor

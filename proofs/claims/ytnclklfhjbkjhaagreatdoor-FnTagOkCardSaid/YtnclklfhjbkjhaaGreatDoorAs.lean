/-
  FnTagOk, errors.As of an error that errors.New has made, at a target of the type *ErrorWithPos: false, and nothing of old turns. No condition.
-/
import Derived.Test.YtnclklfhjbkjhaaGreatDoorProg
import Derived.WalkKit
import Derived.LaidEql
import Derived.Stop.Asserts
import Derived.RowKitTokens
import Derived.Outline
import Derived.Lib.Hide
namespace Go.Proofs.YtnclklfhjbkjhaaGreatDoor.Walk
open Go.RowKit Go.Extern.Stop Go.Stop Go.Extern

/-! ### CLOSED FACTS: 89: *errors.errorString · 84: *reporter.ErrorWithPos · 45: reporter.ErrorWithPos · 112: reflectlite's rtype -/
theorem valueOf84 (t : Addr) (w : World) : (ReflectliteValue.unpack (.iface 84 (.pointer (some t)))).run Tryz.prog w
    = .ok (.agg #[.pointer (some ⟨1, 84, none⟩), .pointer (some ⟨w.heap.size, 0, none⟩), .int .u64 150]) (w.alloc (.cells #[.pointer (some t)] 84)) := by kernel_rfl
theorem type84 (a : Addr) (w : World) : (ReflectliteValue.methodAny (ReflectliteValue.valueError "reflectlite.Value.Type" 0) (fun t _ _ _ => ReflectliteType.toType t) #[.agg #[.pointer (some ⟨1, 84, none⟩), .pointer (some a), .int .u64 150]]).run Tryz.prog w
    = .ok (.iface 112 (.agg #[.pointer (some ⟨1, 84, none⟩)])) w := by kernel_rfl
theorem methodKind (h : Value) (w : World) : (Go.method 425 112 (.agg #[h]) "Kind").run Tryz.prog w = .ok (43, h) w := by kernel_rfl
theorem kind84 (w : World) : ((ReflectliteType.abiMethod fun t => (fun a : Nat => Value.int IntKind.u8 (a : Int)) <$> Rtype.kind t) #[.pointer (some ⟨1, 84, none⟩)]).run Tryz.prog w = .ok (.int .u8 22) w := by kernel_rfl
theorem kind45 (w : World) : ((ReflectliteType.abiMethod fun t => (fun a : Nat => Value.int IntKind.u8 (a : Int)) <$> Rtype.kind t) #[.pointer (some ⟨1, 45, none⟩)]).run Tryz.prog w = .ok (.int .u8 20) w := by kernel_rfl
theorem rlm (z : Sem Value) (f : TypeId → Addr → Nat → Nat → Sem Value) (v : Value) :
    ReflectliteValue.method z f #[v] = (do match ← ReflectliteValue.parts v with | none => z | some (t, a, fl) => f t a fl (fl % 32)) := rfl
theorem parts84 (a : Addr) (w : World) : (ReflectliteValue.parts (.agg #[.pointer (some ⟨1, 84, none⟩), .pointer (some a), .int .u64 150])).run Tryz.prog w = .ok (some (84, a, 150)) w := by kernel_rfl
theorem isNil84 (a p : Addr) (W : World) (ha : W.cell? a = some (.pointer (some p))) :
    (ReflectliteValue.method (ReflectliteValue.valueError "reflectlite.Value.IsNil" 0) ReflectliteValue.isNil #[.agg #[.pointer (some ⟨1, 84, none⟩), .pointer (some a), .int .u64 150]]).run Tryz.prog W = .ok (.bool false) W := by
  rw [rlm]
  simp only [Sem.run_bind, parts84, Result.andThen]
  simp [ReflectliteValue.isNil, loadVar, isAgg, underlying, Tryz.underlying84, ha, Result.andThen]
theorem methodElem (h : Value) (w : World) : (Go.method 425 112 (.agg #[h]) "Elem").run Tryz.prog w = .ok (88, .agg #[h]) w := by kernel_rfl
theorem methodAssignableTo (h : Value) (w : World) : (Go.method 425 112 (.agg #[h]) "AssignableTo").run Tryz.prog w = .ok (86, .agg #[h]) w := by kernel_rfl
theorem elem84 (w : World) : (ReflectliteType.method ReflectliteType.elem #[.agg #[.pointer (some ⟨1, 84, none⟩)]]).run Tryz.prog w = .ok (.iface 112 (.agg #[.pointer (some ⟨1, 45, none⟩)])) w := by kernel_rfl
theorem typeOf89 (v : Value) (w : World) : (ReflectliteType.typeOf #[.iface 89 v]).run Tryz.prog w = .ok (.iface 112 (.agg #[.pointer (some ⟨1, 89, none⟩)])) w := by kernel_rfl

/-! ### THE ERROR's TYPE LACKS METHODS OF ErrorWithPos -/
theorem desc45 : (Tryz.prog.info? 45).map (·.desc) = some (.named "pub-schemata/pub/protocompile/reporter.ErrorWithPos" 44) := by kernel_rfl
theorem desc44 : (Tryz.prog.info? 44).map (·.desc) = some (.interface #[("End", 159), ("Error", 124), ("GetPosition", 159), ("Start", 159), ("Unwrap", 86)]) := by kernel_rfl
theorem desc89 : (Tryz.prog.info? 89).map (fun i => (i.desc, (lacking #[("End", 159), ("Error", 124), ("GetPosition", 159), ("Start", 159), ("Unwrap", 86)] i.methods).isEmpty)) = some (.pointer 91, false) := by kernel_rfl
theorem pack89 (w : World) : (Rtype.noPackMethods "a method set held against an interface's list" 89).run Tryz.prog w = .ok () w := by kernel_rfl
theorem pack45 (w : World) : (Rtype.noPackMethods "a method set held against an interface's list" 45).run Tryz.prog w = .ok () w := by kernel_rfl
theorem implements89 (w : World) : (Rtype.implements 45 89).run Tryz.prog w = .ok false w := by
  obtain ⟨i45, h45, d45⟩ := Option.map_eq_some_iff.1 desc45
  obtain ⟨i44, h44, d44⟩ := Option.map_eq_some_iff.1 desc44
  obtain ⟨i89, h89, d89⟩ := Option.map_eq_some_iff.1 desc89
  obtain ⟨d89, hl⟩ := Prod.mk.inj d89
  obtain ⟨m, hm⟩ := missingMethod_some (fun e => by rw [e] at hl; cases hl)
  have u45 : (Rtype.under 45).run Tryz.prog w = .ok (44, i44) w := by simp [Rtype.under, typeInfo, h45, d45, h44]
  have u89 : (Rtype.under 89).run Tryz.prog w = .ok (89, i89) w := by simp [Rtype.under, typeInfo, h89, d89]
  unfold Rtype.implements
  simp [pack89, pack45, u45, u89, d44, d89, typeInfo, h89, hm]
theorem rla (what : String) (f : TypeId → TypeId → Sem Bool) (r u : Value) (t : TypeId) : ReflectliteType.relation what f #[r, .iface t u] = (do pure (.bool (← f (← ReflectliteType.ofRtype u) (← ReflectliteType.ofRtype r)))) := rfl
theorem ofR89 (w : World) : (ReflectliteType.ofRtype (.agg #[.pointer (some ⟨1, 89, none⟩)])).run Tryz.prog w = .ok 89 w := by kernel_rfl
theorem ofR45 (w : World) : (ReflectliteType.ofRtype (.agg #[.pointer (some ⟨1, 45, none⟩)])).run Tryz.prog w = .ok 45 w := by kernel_rfl
theorem packA89 (w : World) : (Rtype.noPackMethods "AssignableTo" 89).run Tryz.prog w = .ok () w := by kernel_rfl
theorem packA45 (w : World) : (Rtype.noPackMethods "AssignableTo" 45).run Tryz.prog w = .ok () w := by kernel_rfl
theorem direct89 (w : World) : (Rtype.directlyAssignable 45 89).run Tryz.prog w = .ok false w := by kernel_rfl
theorem assignable89 (w : World) : (ReflectliteType.relation "AssignableTo" ReflectliteType.assignableTo #[.agg #[.pointer (some ⟨1, 89, none⟩)], .iface 112 (.agg #[.pointer (some ⟨1, 45, none⟩)])]).run Tryz.prog w = .ok (.bool false) w := by
  rw [rla]
  simp [ofR89, ofR45, ReflectliteType.assignableTo, packA89, packA45, direct89, implements89]
theorem noAs (v : Value) (xT : TypeId) (w : World) : (Instr.typeAssert (.iface 89 v) xT 117 true).run Tryz.prog w = .ok (.tuple #[.nilIface, .bool false]) w := run_typeAssert_lacksB Tryz.underlying117 (by kernel_rfl) (by kernel_rfl) v xT w
theorem noUnwrap (v : Value) (xT : TypeId) (w : World) : (Instr.typeAssert (.iface 89 v) xT 120 true).run Tryz.prog w = .ok (.tuple #[.nilIface, .bool false]) w := run_typeAssert_lacksB Tryz.underlying120 (by kernel_rfl) (by kernel_rfl) v xT w
theorem noUnwraps (v : Value) (xT : TypeId) (w : World) : (Instr.typeAssert (.iface 89 v) xT 121 true).run Tryz.prog w = .ok (.tuple #[.nilIface, .bool false]) w := run_typeAssert_lacksB Tryz.underlying121 (by kernel_rfl) (by kernel_rfl) v xT w

set_option maxHeartbeats 4000000 in
set_option maxRecDepth 100000 in
theorem as_miss (v : Value) (t : Addr) (w : World) :
    Calls Tryz.prog 19 #[.iface 89 v, .iface 84 (.pointer (some t))] w fun ev w' => ev = .returned (.bool false) ∧ Below w.heap.size w w' := by
  have h22 := @run_callFunc_extern Tryz.prog 22 _ (fun args => ReflectliteValue.unpack (args.getD 0 (.tuple #[]))) Tryz.func22 (by kernel_rfl) (by kernel_rfl) (by kernel_rfl) (by kernel_rfl)
  have h23 := @run_callFunc_extern Tryz.prog 23 _ (ReflectliteValue.methodAny (ReflectliteValue.valueError "reflectlite.Value.Type" 0) (fun t _ _ _ => ReflectliteType.toType t)) Tryz.func23 (by kernel_rfl) (by kernel_rfl) (by kernel_rfl) (by kernel_rfl)
  have h24 := @run_callFunc_extern Tryz.prog 24 _ (ReflectliteValue.method (ReflectliteValue.valueError "reflectlite.Value.IsNil" 0) ReflectliteValue.isNil) Tryz.func24 (by kernel_rfl) (by kernel_rfl) (by kernel_rfl) (by kernel_rfl)
  have h43 := @run_callFunc_extern Tryz.prog 43 _ (ReflectliteType.abiMethod fun t => do pure (.int .u8 (← Rtype.kind t))) Tryz.func43 (by kernel_rfl) (by kernel_rfl) (by kernel_rfl) (by kernel_rfl)
  have h88 := @run_callFunc_extern Tryz.prog 88 _ (ReflectliteType.method ReflectliteType.elem) Tryz.func88 (by kernel_rfl) (by kernel_rfl) (by kernel_rfl) (by kernel_rfl)
  have h26 := @run_callFunc_extern Tryz.prog 26 _ ReflectliteType.typeOf Tryz.func26 (by kernel_rfl) (by kernel_rfl) (by kernel_rfl) (by kernel_rfl)
  have h86 := @run_callFunc_extern Tryz.prog 86 _ (ReflectliteType.relation "AssignableTo" ReflectliteType.assignableTo) Tryz.func86 (by kernel_rfl) (by kernel_rfl) (by kernel_rfl) (by kernel_rfl)
  have tO := typeOf89
  have mA := methodAssignableTo
  have a89 := assignable89
  have f22 := valueOf84
  have f23 := type84
  have mK := methodKind
  have mE := methodElem
  have k84 := kind84
  have k45 := kind45
  have e84 := elem84
  have nA := noAs
  have nU := noUnwrap
  have nUs := noUnwraps
  have n24 := isNil84 ⟨w.heap.size, 0, none⟩ t ((w.alloc (.cells #[.pointer (some t)] 84)).alloc (.cells #[.pointer (some ⟨1, 84, none⟩), .pointer (some ⟨w.heap.size, 0, none⟩), .int .u64 150] 101)) (by simp)
  go_enter Tryz.func19, Tryz.ntmps19
  go_wp2
  refine wp_loop_rounds 1 ?_
  rw [rounds_succ]
  go_wp2
  go_ret
  exact ⟨rfl, (((Below.refl _ w).alloc (Nat.le_refl _) _).alloc (by simp) _).alloc (by simp; omega) _⟩
end Go.Proofs.YtnclklfhjbkjhaaGreatDoor.Walk

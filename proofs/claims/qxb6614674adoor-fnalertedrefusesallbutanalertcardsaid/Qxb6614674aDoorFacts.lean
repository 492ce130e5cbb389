/-
  Closed facts on the model's entries for internal/reflectlite at this dump (after the guide's worked ToyasAs text): 27: *net.OpError, 37: **net.OpError, 39: *errors.joinError, 42: *errors.errorString, 31: error, 58: rtype.
-/
import Derived.Test.Qxb6614674aDoorRows
import Derived.WalkKit
import Derived.WalkSpells
import Derived.WalkLawsBesides
import Derived.LaidEql
import Derived.Stop.Asserts
import Derived.RowKitTokens
namespace Go.Proofs.Qxb6614674aDoor.Al
open Go.RowKit Go.Extern.Stop Go.Stop Go.Extern

theorem valueOf37 (t : Addr) (w : World) : (ReflectliteValue.unpack (.iface 37 (.pointer (some t)))).run Tryd.prog w
    = .ok (.agg #[.pointer (some ⟨1, 37, none⟩), .pointer (some ⟨w.heap.size, 0, none⟩), .int .u64 150]) (w.alloc (.cells #[.pointer (some t)] 37)) := by kernel_rfl
theorem type37 (a : Addr) (w : World) : (ReflectliteValue.methodAny (ReflectliteValue.valueError "reflectlite.Value.Type" 0) (fun t _ _ _ => ReflectliteType.toType t) #[.agg #[.pointer (some ⟨1, 37, none⟩), .pointer (some a), .int .u64 150]]).run Tryd.prog w
    = .ok (.iface 58 (.agg #[.pointer (some ⟨1, 37, none⟩)])) w := by kernel_rfl
theorem methodKind (h : Value) (w : World) : (Go.method 200 58 (.agg #[h]) "Kind").run Tryd.prog w = .ok (37, h) w := by kernel_rfl
theorem kind37 (w : World) : ((ReflectliteType.abiMethod fun t => (fun a : Nat => Value.int IntKind.u8 (a : Int)) <$> Rtype.kind t) #[.pointer (some ⟨1, 37, none⟩)]).run Tryd.prog w = .ok (.int .u8 22) w := by kernel_rfl
theorem kind27 (w : World) : ((ReflectliteType.abiMethod fun t => (fun a : Nat => Value.int IntKind.u8 (a : Int)) <$> Rtype.kind t) #[.pointer (some ⟨1, 27, none⟩)]).run Tryd.prog w = .ok (.int .u8 22) w := by kernel_rfl
theorem parts37 (a : Addr) (w : World) : (ReflectliteValue.parts (.agg #[.pointer (some ⟨1, 37, none⟩), .pointer (some a), .int .u64 150])).run Tryd.prog w = .ok (some (37, a, 150)) w := by kernel_rfl
theorem rlm (z : Sem Value) (f : TypeId → Addr → Nat → Nat → Sem Value) (v : Value) :
    ReflectliteValue.method z f #[v] = (do match ← ReflectliteValue.parts v with | none => z | some (t, a, fl) => f t a fl (fl % 32)) := rfl
theorem isNil37 (a p : Addr) (W : World) (ha : W.cell? a = some (.pointer (some p))) :
    (ReflectliteValue.method (ReflectliteValue.valueError "reflectlite.Value.IsNil" 0) ReflectliteValue.isNil #[.agg #[.pointer (some ⟨1, 37, none⟩), .pointer (some a), .int .u64 150]]).run Tryd.prog W = .ok (.bool false) W := by
  rw [rlm]
  simp only [Sem.run_bind, parts37, Result.andThen]
  simp [ReflectliteValue.isNil, loadVar, isAgg, underlying, Tryd.underlying37, ha, Result.andThen]
theorem methodElem (h : Value) (w : World) : (Go.method 200 58 (.agg #[h]) "Elem").run Tryd.prog w = .ok (51, .agg #[h]) w := by kernel_rfl
theorem methodImplements (h : Value) (w : World) : (Go.method 200 58 (.agg #[h]) "Implements").run Tryd.prog w = .ok (52, .agg #[h]) w := by kernel_rfl
theorem methodAssignableTo (h : Value) (w : World) : (Go.method 200 58 (.agg #[h]) "AssignableTo").run Tryd.prog w = .ok (49, .agg #[h]) w := by kernel_rfl
theorem methodUnwrap (a : Addr) (w : World) : (Go.method 200 39 (.pointer (some a)) "Unwrap").run Tryd.prog w = .ok (43, .pointer (some a)) w := by kernel_rfl
theorem elem37 (w : World) : (ReflectliteType.method ReflectliteType.elem #[.agg #[.pointer (some ⟨1, 37, none⟩)]]).run Tryd.prog w = .ok (.iface 58 (.agg #[.pointer (some ⟨1, 27, none⟩)])) w := by kernel_rfl
theorem implements27 (w : World) : (ReflectliteType.relation "Implements" ReflectliteType.implements_ #[.agg #[.pointer (some ⟨1, 27, none⟩)], .iface 58 (.agg #[.pointer (some ⟨1, 31, none⟩)])]).run Tryd.prog w = .ok (.bool true) w := by kernel_rfl
theorem typeOf27 (v : Value) (w : World) : (ReflectliteType.typeOf #[.iface 27 v]).run Tryd.prog w = .ok (.iface 58 (.agg #[.pointer (some ⟨1, 27, none⟩)])) w := by kernel_rfl
theorem typeOf39 (v : Value) (w : World) : (ReflectliteType.typeOf #[.iface 39 v]).run Tryd.prog w = .ok (.iface 58 (.agg #[.pointer (some ⟨1, 39, none⟩)])) w := by kernel_rfl
theorem typeOf42 (v : Value) (w : World) : (ReflectliteType.typeOf #[.iface 42 v]).run Tryd.prog w = .ok (.iface 58 (.agg #[.pointer (some ⟨1, 42, none⟩)])) w := by kernel_rfl
theorem assignable27 (w : World) : (ReflectliteType.relation "AssignableTo" ReflectliteType.assignableTo #[.agg #[.pointer (some ⟨1, 27, none⟩)], .iface 58 (.agg #[.pointer (some ⟨1, 27, none⟩)])]).run Tryd.prog w = .ok (.bool true) w := by kernel_rfl
theorem assignable39 (w : World) : (ReflectliteType.relation "AssignableTo" ReflectliteType.assignableTo #[.agg #[.pointer (some ⟨1, 39, none⟩)], .iface 58 (.agg #[.pointer (some ⟨1, 27, none⟩)])]).run Tryd.prog w = .ok (.bool false) w := by kernel_rfl
theorem assignable42 (w : World) : (ReflectliteType.relation "AssignableTo" ReflectliteType.assignableTo #[.agg #[.pointer (some ⟨1, 42, none⟩)], .iface 58 (.agg #[.pointer (some ⟨1, 27, none⟩)])]).run Tryd.prog w = .ok (.bool false) w := by kernel_rfl
theorem valueOf27 (e : Addr) (w : World) : (ReflectliteValue.unpack (.iface 27 (.pointer (some e)))).run Tryd.prog w
    = .ok (.agg #[.pointer (some ⟨1, 27, none⟩), .pointer (some ⟨w.heap.size, 0, none⟩), .int .u64 150]) (w.alloc (.cells #[.pointer (some e)] 27)) := by kernel_rfl
theorem elemOf37 (w : World) : (Rtype.elem? 37).run Tryd.prog w = .ok (some 27) w := by kernel_rfl
theorem mk27 (p : Addr) (w : World) : (ReflectliteValue.mk 27 p ReflectliteValue.flagAddr).run Tryd.prog w = .ok (.agg #[.pointer (some ⟨1, 27, none⟩), .pointer (some p), .int .u64 406]) w := by kernel_rfl
theorem elemV37 (a p : Addr) (W : World) (ha : W.cell? a = some (.pointer (some p))) :
    (ReflectliteValue.method (ReflectliteValue.valueError "reflectlite.Value.Elem" 0) ReflectliteValue.elem #[.agg #[.pointer (some ⟨1, 37, none⟩), .pointer (some a), .int .u64 150]]).run Tryd.prog W
      = .ok (.agg #[.pointer (some ⟨1, 27, none⟩), .pointer (some p), .int .u64 406]) W := by
  rw [rlm]
  simp only [Sem.run_bind, parts37, Result.andThen]
  simp [ReflectliteValue.elem, loadVar, isAgg, underlying, Tryd.underlying37, ha, Result.andThen, elemOf37, mk27]
theorem parts27a (a : Addr) (w : World) : (ReflectliteValue.parts (.agg #[.pointer (some ⟨1, 27, none⟩), .pointer (some a), .int .u64 406])).run Tryd.prog w = .ok (some (27, a, 406)) w := by kernel_rfl
theorem parts27 (a : Addr) (w : World) : (ReflectliteValue.parts (.agg #[.pointer (some ⟨1, 27, none⟩), .pointer (some a), .int .u64 150])).run Tryd.prog w = .ok (some (27, a, 150)) w := by kernel_rfl
theorem direct27 (w : World) : (Rtype.directlyAssignable 27 27).run Tryd.prog w = .ok true w := by kernel_rfl
theorem size27 (w : World) : (sizeOf 27).run Tryd.prog w = .ok 1 w := by kernel_rfl
/-- What (Value).Set does at these two Values, where the one type is directly assignable to the other; the other way is left as it is. -/
theorem rls (v x : Value) (ta b : Addr) : ∃ (G : Option (TypeId × Addr × Nat) → Option (TypeId × Addr × Nat) → Sem Value) (E : Value → Sem Value),
    ReflectliteValue.set #[v, x] = (do let p ← ReflectliteValue.parts v; let q ← ReflectliteValue.parts x; G p q) ∧
    G (some (27, ta, 406)) (some (27, b, 150)) = (do let val ← loadVar 27 b; let c ← Rtype.directlyAssignable 27 27; if c then (do storeVar 27 ta val; pure (.tuple #[])) else E val) := ⟨_, _, rfl, rfl⟩
/-- (Value).Set: the variable at ta gets what the Value's own variable b holds. -/
theorem set27 (ta b e : Addr) (old : Value) (W : World) (hb : W.cell? b = some (.pointer (some e))) (ht : W.cell? ta = some old) (hf : W.frozen? ta = false) :
    (ReflectliteValue.set #[.agg #[.pointer (some ⟨1, 27, none⟩), .pointer (some ta), .int .u64 406], .agg #[.pointer (some ⟨1, 27, none⟩), .pointer (some b), .int .u64 150]]).run Tryd.prog W
      = .ok (.tuple #[]) (W.setCell ta (.pointer (some e))) := by
  obtain ⟨G, E, h, hG⟩ := rls (.agg #[.pointer (some ⟨1, 27, none⟩), .pointer (some ta), .int .u64 406]) (.agg #[.pointer (some ⟨1, 27, none⟩), .pointer (some b), .int .u64 150]) ta b
  rw [h]
  simp only [Sem.run_bind, parts27a, parts27, Result.andThen, hG]
  simp [loadVar, isAgg, underlying, Tryd.underlying27, hb, Result.andThen, direct27, storeVar, Value.cells, storeCells, Addr.add]
  rw [run_store Tryd.prog W ta _ _ (by rfl)]
  simp [ht, hf]

theorem noAs39 (v : Value) (w : World) : (Instr.typeAssert (.iface 39 v) 31 63 true).run Tryd.prog w = .ok (.tuple #[.nilIface, .bool false]) w := run_typeAssert_lacksB Tryd.underlying63 (by kernel_rfl) (by kernel_rfl) v 31 w
theorem noAs42 (v : Value) (w : World) : (Instr.typeAssert (.iface 42 v) 31 63 true).run Tryd.prog w = .ok (.tuple #[.nilIface, .bool false]) w := run_typeAssert_lacksB Tryd.underlying63 (by kernel_rfl) (by kernel_rfl) v 31 w
theorem noUnwrap39 (v : Value) (w : World) : (Instr.typeAssert (.iface 39 v) 31 66 true).run Tryd.prog w = .ok (.tuple #[.nilIface, .bool false]) w := run_typeAssert_lacksB Tryd.underlying66 (by kernel_rfl) (by kernel_rfl) v 31 w
theorem noUnwrap42 (v : Value) (w : World) : (Instr.typeAssert (.iface 42 v) 31 66 true).run Tryd.prog w = .ok (.tuple #[.nilIface, .bool false]) w := run_typeAssert_lacksB Tryd.underlying66 (by kernel_rfl) (by kernel_rfl) v 31 w
theorem noUnwraps42 (v : Value) (w : World) : (Instr.typeAssert (.iface 42 v) 31 68 true).run Tryd.prog w = .ok (.tuple #[.nilIface, .bool false]) w := run_typeAssert_lacksB Tryd.underlying68 (by kernel_rfl) (by kernel_rfl) v 31 w
theorem unwraps39 (v : Value) (w : World) : (Instr.typeAssert (.iface 39 v) 31 68 true).run Tryd.prog w = .ok (.tuple #[.iface 39 v, .bool true]) w := run_typeAssert_hasB Tryd.underlying68 (by kernel_rfl) v 31 w
end Go.Proofs.Qxb6614674aDoor.Al

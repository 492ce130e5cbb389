/-
  errors.As and alerted, by their contracts.
-/
import Derived.Test.Qxb6614674aDoorJoin
namespace Go.Proofs.Qxb6614674aDoor.Al
open Go.RowKit Go.Extern.Stop Go.Stop Go.Extern
set_option linter.unusedVariables false

set_option maxHeartbeats 400000 in
theorem As_nil (t : Value) (w : World) : Calls Tryd.prog 15 #[.nilIface, t] w fun e w' => e = .returned (.bool false) ∧ w' = w := by
  go_enter Tryd.func15, Tryd.ntmps15
  go_wp2
  go_ret
  exact ⟨rfl, rfl⟩

set_option maxHeartbeats 1000000 in
/-- errors.As up to its call of errors.as: whatever that call leaves. -/
theorem As_any (T : TypeId) (y : Value) (tb : Nat) (w : World) (hg : w.cell? ⟨0, 0, none⟩ = some (.iface 58 (.agg #[.pointer (some ⟨1, 31, none⟩)]))) (Q : Bool → World → Prop)
    (H : Calls Tryd.prog 19 #[.iface T y, .iface 37 (.pointer (some ⟨tb, 0, none⟩)), .agg #[.pointer (some ⟨1, 37, none⟩), .pointer (some ⟨w.heap.size, 0, none⟩), .int .u64 150], .iface 58 (.agg #[.pointer (some ⟨1, 27, none⟩)])]
      ((w.alloc (.cells #[.pointer (some ⟨tb, 0, none⟩)] 37)).alloc (.cells #[.pointer (some ⟨1, 37, none⟩), .pointer (some ⟨w.heap.size, 0, none⟩), .int .u64 150] 48)) fun ev w' => ∃ b, ev = .returned (.bool b) ∧ Q b w') :
    Calls Tryd.prog 15 #[.iface T y, .iface 37 (.pointer (some ⟨tb, 0, none⟩))] w fun ev w' => ∃ b, ev = .returned (.bool b) ∧ Q b w' := by
  have HH : Hid (Calls Tryd.prog 19 #[.iface T y, .iface 37 (.pointer (some ⟨tb, 0, none⟩)), .agg #[.pointer (some ⟨1, 37, none⟩), .pointer (some ⟨w.heap.size, 0, none⟩), .int .u64 150], .iface 58 (.agg #[.pointer (some ⟨1, 27, none⟩)])]
      ((w.alloc (.cells #[.pointer (some ⟨tb, 0, none⟩)] 37)).alloc (.cells #[.pointer (some ⟨1, 37, none⟩), .pointer (some ⟨w.heap.size, 0, none⟩), .int .u64 150] 48)) fun ev w' => ∃ b, ev = .returned (.bool b) ∧ Q b w') := H
  clear H
  have h16 := @run_callFunc_extern Tryd.prog 16 _ (fun args => ReflectliteValue.unpack (args.getD 0 (.tuple #[]))) Tryd.func16 (by kernel_rfl) (by kernel_rfl) (by kernel_rfl) (by kernel_rfl)
  have h17 := @run_callFunc_extern Tryd.prog 17 _ (ReflectliteValue.methodAny (ReflectliteValue.valueError "reflectlite.Value.Type" 0) (fun t _ _ _ => ReflectliteType.toType t)) Tryd.func17 (by kernel_rfl) (by kernel_rfl) (by kernel_rfl) (by kernel_rfl)
  have h18 := @run_callFunc_extern Tryd.prog 18 _ (ReflectliteValue.method (ReflectliteValue.valueError "reflectlite.Value.IsNil" 0) ReflectliteValue.isNil) Tryd.func18 (by kernel_rfl) (by kernel_rfl) (by kernel_rfl) (by kernel_rfl)
  have h37 := @run_callFunc_extern Tryd.prog 37 _ (ReflectliteType.abiMethod fun t => do pure (.int .u8 (← Rtype.kind t))) Tryd.func37 (by kernel_rfl) (by kernel_rfl) (by kernel_rfl) (by kernel_rfl)
  have h51 := @run_callFunc_extern Tryd.prog 51 _ (ReflectliteType.method ReflectliteType.elem) Tryd.func51 (by kernel_rfl) (by kernel_rfl) (by kernel_rfl) (by kernel_rfl)
  have h52 := @run_callFunc_extern Tryd.prog 52 _ (ReflectliteType.relation "Implements" ReflectliteType.implements_) Tryd.func52 (by kernel_rfl) (by kernel_rfl) (by kernel_rfl) (by kernel_rfl)
  have f6 := valueOf37
  have f7 := type37
  have mK := methodKind
  have mE := methodElem
  have mI := methodImplements
  have k37 := kind37
  have k27 := kind27
  have e37 := elem37
  have i27 := implements27
  have n8 := isNil37 ⟨w.heap.size, 0, none⟩ ⟨tb, 0, none⟩ ((w.alloc (.cells #[.pointer (some ⟨tb, 0, none⟩)] 37)).alloc (.cells #[.pointer (some ⟨1, 37, none⟩), .pointer (some ⟨w.heap.size, 0, none⟩), .int .u64 150] 48)) (by simp)
  have hlt : 0 < w.heap.size := by
    rcases Nat.eq_zero_or_pos w.heap.size with h0 | h
    · simp [World.cell?, h0] at hg
    · exact h
  have hg2 : ((w.alloc (.cells #[.pointer (some ⟨tb, 0, none⟩)] 37)).alloc (.cells #[.pointer (some ⟨1, 37, none⟩), .pointer (some ⟨w.heap.size, 0, none⟩), .int .u64 150] 48)).cell? ⟨0, 0, none⟩ = some (.iface 58 (.agg #[.pointer (some ⟨1, 31, none⟩)])) := by
    rw [World.cell?_alloc_lt _ _ ⟨0, 0, none⟩ (by simp), World.cell?_alloc_lt _ _ ⟨0, 0, none⟩ hlt]; exact hg
  go_enter Tryd.func15, Tryd.ntmps15
  go_wp2_with (first | (go_at_call 19; refine HH.out.mono ?_; rintro ev w' ⟨b, rfl, hq⟩) | go_in)
  go_ret
  exact ⟨_, rfl, hq⟩
end Go.Proofs.Qxb6614674aDoor.Al

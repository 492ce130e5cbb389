/-
  errors.as, Go's own text walked, at a target of type **net.OpError: by its contracts.
-/
import Derived.Test.Qxb6614674aDoorFacts
namespace Go.Proofs.Qxb6614674aDoor.Al
open Go.RowKit Go.Extern.Stop Go.Stop Go.Extern
set_option linter.unusedVariables false

set_option maxHeartbeats 1000000 in
/-- The error's own dynamic type is the target's element type: true, and the target's variable is set. -/
theorem as_hit (e : Addr) (tb ab : Nat) (old : Value) (W : World) (ht : W.heap[tb]? = some (.cells #[old] 27 (0, 0))) (ha : W.cell? ⟨ab, 0, none⟩ = some (.pointer (some ⟨tb, 0, none⟩))) (hab : ab < W.heap.size) :
    Calls Tryd.prog 19 #[.iface 27 (.pointer (some e)), .iface 37 (.pointer (some ⟨tb, 0, none⟩)), .agg #[.pointer (some ⟨1, 37, none⟩), .pointer (some ⟨ab, 0, none⟩), .int .u64 150], .iface 58 (.agg #[.pointer (some ⟨1, 27, none⟩)])] W
      fun ev w' => ev = .returned (.bool true) ∧ w'.cell? ⟨tb, 0, none⟩ = some (.pointer (some e)) ∧ Below tb W w' := by
  have hlt := lt_of_block ht
  have h16 := @run_callFunc_extern Tryd.prog 16 _ (fun args => ReflectliteValue.unpack (args.getD 0 (.tuple #[]))) Tryd.func16 (by kernel_rfl) (by kernel_rfl) (by kernel_rfl) (by kernel_rfl)
  have h20 := @run_callFunc_extern Tryd.prog 20 _ ReflectliteType.typeOf Tryd.func20 (by kernel_rfl) (by kernel_rfl) (by kernel_rfl) (by kernel_rfl)
  have h49 := @run_callFunc_extern Tryd.prog 49 _ (ReflectliteType.relation "AssignableTo" ReflectliteType.assignableTo) Tryd.func49 (by kernel_rfl) (by kernel_rfl) (by kernel_rfl) (by kernel_rfl)
  have h21 := @run_callFunc_extern Tryd.prog 21 _ (ReflectliteValue.method (ReflectliteValue.valueError "reflectlite.Value.Elem" 0) ReflectliteValue.elem) Tryd.func21 (by kernel_rfl) (by kernel_rfl) (by kernel_rfl) (by kernel_rfl)
  have h22 := @run_callFunc_extern Tryd.prog 22 _ ReflectliteValue.set Tryd.func22 (by kernel_rfl) (by kernel_rfl) (by kernel_rfl) (by kernel_rfl)
  have tO := typeOf27
  have mA := methodAssignableTo
  have a27 := assignable27
  have v27 := valueOf27
  have el := elemV37 ⟨ab, 0, none⟩ ⟨tb, 0, none⟩ (W.alloc (.cells #[.pointer (some ⟨1, 37, none⟩), .pointer (some ⟨ab, 0, none⟩), .int .u64 150] 48)) (by rw [World.cell?_alloc_lt _ _ ⟨ab, 0, none⟩ hab]; exact ha)
  have hB : Below W.heap.size W ((W.alloc (.cells #[.pointer (some ⟨1, 37, none⟩), .pointer (some ⟨ab, 0, none⟩), .int .u64 150] 48)).alloc (.cells #[.pointer (some e)] 27)) := ((Below.refl _ _).alloc (Nat.le_refl _) _).alloc (by simp) _
  have hone : ((W.alloc (.cells #[.pointer (some ⟨1, 37, none⟩), .pointer (some ⟨ab, 0, none⟩), .int .u64 150] 48)).alloc (.cells #[.pointer (some e)] 27)).heap[tb]? = some (.cells #[old] 27 (0, 0)) := by rw [hB.block tb hlt]; exact ht
  have st := set27 ⟨tb, 0, none⟩ ⟨W.heap.size + 1, 0, none⟩ e old ((W.alloc (.cells #[.pointer (some ⟨1, 37, none⟩), .pointer (some ⟨ab, 0, none⟩), .int .u64 150] 48)).alloc (.cells #[.pointer (some e)] 27))
    (by rw [World.cell?_alloc_at _ _ _ _ (by simp)]; rfl) (cell_of_one hone) (free_of_one hone)
  clear hone hB
  go_enter Tryd.func19, Tryd.ntmps19
  go_wp2
  refine wp_loop_rounds 1 ?_
  rw [rounds_succ]
  go_wp2
  go_ret
  have hs : (W.setCell ⟨tb, 0, none⟩ (.pointer (some e))).heap.size = W.heap.size := by simp [World.setCell]
  have hB2 := fun o1 o2 => ((Below.refl (W.setCell ⟨tb, 0, none⟩ (.pointer (some e))).heap.size (W.setCell ⟨tb, 0, none⟩ (.pointer (some e)))).alloc (Nat.le_refl _) o1).alloc (by simp) o2
  exact ⟨rfl, ((hB2 _ _).cell (p := ⟨tb, 0, none⟩) (by rw [hs]; exact hlt)).trans (cell_of_one (one_setCell ht)), (((Below.refl tb W).setCell (by simp) _).trans ((hB2 _ _).mono (by rw [hs]; omega)))⟩

set_option maxHeartbeats 1000000 in
/-- A plain error of errors.New's make: false. -/
theorem as_plain (x : Value) (tb ab : Nat) (W : World) :
    Calls Tryd.prog 19 #[.iface 42 x, .iface 37 (.pointer (some ⟨tb, 0, none⟩)), .agg #[.pointer (some ⟨1, 37, none⟩), .pointer (some ⟨ab, 0, none⟩), .int .u64 150], .iface 58 (.agg #[.pointer (some ⟨1, 27, none⟩)])] W
      fun ev w' => ev = .returned (.bool false) ∧ Below W.heap.size W w' := by
  have h20 := @run_callFunc_extern Tryd.prog 20 _ ReflectliteType.typeOf Tryd.func20 (by kernel_rfl) (by kernel_rfl) (by kernel_rfl) (by kernel_rfl)
  have h49 := @run_callFunc_extern Tryd.prog 49 _ (ReflectliteType.relation "AssignableTo" ReflectliteType.assignableTo) Tryd.func49 (by kernel_rfl) (by kernel_rfl) (by kernel_rfl) (by kernel_rfl)
  have tO := typeOf42
  have mA := methodAssignableTo
  have a42 := assignable42
  have n1 := noAs42
  have n2 := noUnwrap42
  have n3 := noUnwraps42
  go_enter Tryd.func19, Tryd.ntmps19
  go_wp2
  refine wp_loop_rounds 1 ?_
  rw [rounds_succ]
  go_wp2
  go_ret
  exact ⟨rfl, (Below.refl _ _).alloc (Nat.le_refl _) _⟩
end Go.Proofs.Qxb6614674aDoor.Al

/-
  errors.as at a joined error: the first element that is found decides.
-/
import Derived.Test.Qxb6614674aDoorAs
namespace Go.Proofs.Qxb6614674aDoor.Al
open Go.RowKit Go.Extern.Stop Go.Stop Go.Extern
set_option linter.unusedVariables false

/-- What errors.as does at err in every world that keeps what lies in w0, the target's variable being a newer block tb: it finds nothing, or it finds e. -/
def Misses (w0 : World) (err : Value) : Prop :=
  ∀ (W : World) (tb ab : Nat) (old : Value), Below w0.heap.size w0 W → w0.heap.size ≤ tb → W.heap[tb]? = some (.cells #[old] 27 (0, 0)) → W.cell? ⟨ab, 0, none⟩ = some (.pointer (some ⟨tb, 0, none⟩)) → ab < W.heap.size →
    Calls Tryd.prog 19 #[err, .iface 37 (.pointer (some ⟨tb, 0, none⟩)), .agg #[.pointer (some ⟨1, 37, none⟩), .pointer (some ⟨ab, 0, none⟩), .int .u64 150], .iface 58 (.agg #[.pointer (some ⟨1, 27, none⟩)])] W
      fun ev w' => ev = .returned (.bool false) ∧ Below W.heap.size W w'
def Hits (w0 : World) (err : Value) (e : Addr) : Prop :=
  ∀ (W : World) (tb ab : Nat) (old : Value), Below w0.heap.size w0 W → w0.heap.size ≤ tb → W.heap[tb]? = some (.cells #[old] 27 (0, 0)) → W.cell? ⟨ab, 0, none⟩ = some (.pointer (some ⟨tb, 0, none⟩)) → ab < W.heap.size →
    Calls Tryd.prog 19 #[err, .iface 37 (.pointer (some ⟨tb, 0, none⟩)), .agg #[.pointer (some ⟨1, 37, none⟩), .pointer (some ⟨ab, 0, none⟩), .int .u64 150], .iface 58 (.agg #[.pointer (some ⟨1, 27, none⟩)])] W
      fun ev w' => ev = .returned (.bool true) ∧ w'.cell? ⟨tb, 0, none⟩ = some (.pointer (some e)) ∧ Below tb W w'
theorem hits_op (w0 : World) (e : Addr) : Hits w0 (.iface 27 (.pointer (some e))) e := fun W tb ab old _ _ ht ha hab => as_hit e tb ab old W ht ha hab
theorem misses_plain (w0 : World) (x : Value) : Misses w0 (.iface 42 x) := fun W tb ab old _ _ _ _ _ => as_plain x tb ab W

set_option maxHeartbeats 400000 in
theorem unwrap_any (jb : Nat) (v : Value) (w : World) (hc : w.cell? ⟨jb, 0, none⟩ = some v) : Calls Tryd.prog 43 #[.pointer (some ⟨jb, 0, none⟩)] w fun e w' => e = .returned v ∧ w' = w := by
  go_enter Tryd.func43, Tryd.ntmps43
  go_wp2
  go_ret
  exact ⟨rfl, rfl⟩

set_option maxHeartbeats 1000000 in
theorem hits_first (w0 : World) (jb sb cap : Nat) (T0 : TypeId) (y0 : Value) (e : Addr) (hj : w0.cell? ⟨jb, 0, none⟩ = some (.slice (some ⟨sb, 0, none⟩) 2 cap)) (hjb : jb < w0.heap.size) (hsb : sb < w0.heap.size)
    (hx0 : w0.cell? ⟨sb, 0, none⟩ = some (.iface T0 y0)) (H0 : Hits w0 (.iface T0 y0) e) : Hits w0 (.iface 39 (.pointer (some ⟨jb, 0, none⟩))) e := by
  intro W tb ab old hB0 htb ht ha hab
  have hlt := lt_of_block ht
  have hB1 : Below W.heap.size W (W.alloc (.cells #[.pointer (some ⟨1, 37, none⟩), .pointer (some ⟨ab, 0, none⟩), .int .u64 150] 48)) := (Below.refl _ _).alloc (Nat.le_refl _) _
  have hs0 := hB0.size
  have cj : (W.alloc (.cells #[.pointer (some ⟨1, 37, none⟩), .pointer (some ⟨ab, 0, none⟩), .int .u64 150] 48)).cell? ⟨jb, 0, none⟩ = some (.slice (some ⟨sb, 0, none⟩) 2 cap) := (hB1.cell (p := ⟨jb, 0, none⟩) (Nat.lt_of_lt_of_le hjb hs0)).trans ((hB0.cell (p := ⟨jb, 0, none⟩) hjb).trans hj)
  have cx0 : (W.alloc (.cells #[.pointer (some ⟨1, 37, none⟩), .pointer (some ⟨ab, 0, none⟩), .int .u64 150] 48)).cell? ⟨sb, 0, none⟩ = some (.iface T0 y0) := (hB1.cell (p := ⟨sb, 0, none⟩) (Nat.lt_of_lt_of_le hsb hs0)).trans ((hB0.cell (p := ⟨sb, 0, none⟩) hsb).trans hx0)
  have HC := H0 (W.alloc (.cells #[.pointer (some ⟨1, 37, none⟩), .pointer (some ⟨ab, 0, none⟩), .int .u64 150] 48)) tb ab old (hB0.trans (hB1.mono hs0)) htb (by rw [hB1.block tb hlt]; exact ht) ((hB1.cell (p := ⟨ab, 0, none⟩) hab).trans ha) (by simp; omega)
  have H : Hid (Calls Tryd.prog 19 #[.iface T0 y0, .iface 37 (.pointer (some ⟨tb, 0, none⟩)), .agg #[.pointer (some ⟨1, 37, none⟩), .pointer (some ⟨ab, 0, none⟩), .int .u64 150], .iface 58 (.agg #[.pointer (some ⟨1, 27, none⟩)])] (W.alloc (.cells #[.pointer (some ⟨1, 37, none⟩), .pointer (some ⟨ab, 0, none⟩), .int .u64 150] 48))
      fun ev w' => ev = .returned (.bool true) ∧ w'.cell? ⟨tb, 0, none⟩ = some (.pointer (some e)) ∧ Below tb (W.alloc (.cells #[.pointer (some ⟨1, 37, none⟩), .pointer (some ⟨ab, 0, none⟩), .int .u64 150] 48)) w') := HC
  clear HC H0 hj hx0 ha ht hB0
  have h20 := @run_callFunc_extern Tryd.prog 20 _ ReflectliteType.typeOf Tryd.func20 (by kernel_rfl) (by kernel_rfl) (by kernel_rfl) (by kernel_rfl)
  have h49 := @run_callFunc_extern Tryd.prog 49 _ (ReflectliteType.relation "AssignableTo" ReflectliteType.assignableTo) Tryd.func49 (by kernel_rfl) (by kernel_rfl) (by kernel_rfl) (by kernel_rfl)
  have tO := typeOf39
  have mA := methodAssignableTo
  have mU := methodUnwrap
  have a39 := assignable39
  have n1 := noAs39
  have n2 := noUnwrap39
  have n3 := unwraps39
  go_enter Tryd.func19, Tryd.ntmps19
  go_wp2
  refine wp_loop_rounds 1 ?_
  rw [rounds_succ]
  go_wp2_with (go_at_call 43; refine (unwrap_any jb _ _ cj).mono ?_; rintro ev w' ⟨rfl, rfl⟩)
  refine wp_loop_rounds 1 ?_
  rw [rounds_succ]
  go_wp2_with (go_at_call 19; refine H.out.mono ?_; rintro ev w' ⟨rfl, hc, hb⟩)
  go_ret
  exact ⟨rfl, hc, (hB1.mono (by omega)).trans hb⟩

set_option maxHeartbeats 1000000 in
theorem hits_second (w0 : World) (jb sb cap : Nat) (T0 T1 : TypeId) (y0 y1 : Value) (e : Addr) (hj : w0.cell? ⟨jb, 0, none⟩ = some (.slice (some ⟨sb, 0, none⟩) 2 cap)) (hjb : jb < w0.heap.size) (hsb : sb < w0.heap.size)
    (hx0 : w0.cell? ⟨sb, 0, none⟩ = some (.iface T0 y0)) (hx1 : w0.cell? ⟨sb, 1, none⟩ = some (.iface T1 y1)) (H0 : Misses w0 (.iface T0 y0)) (H1 : Hits w0 (.iface T1 y1) e) : Hits w0 (.iface 39 (.pointer (some ⟨jb, 0, none⟩))) e := by
  intro W tb ab old hB0 htb ht ha hab
  have hlt := lt_of_block ht
  obtain ⟨W1, hW1⟩ : ∃ W1, W1 = W.alloc (.cells #[.pointer (some ⟨1, 37, none⟩), .pointer (some ⟨ab, 0, none⟩), .int .u64 150] 48) := ⟨_, rfl⟩
  have hB1 : Below W.heap.size W W1 := by rw [hW1]; exact (Below.refl _ _).alloc (Nat.le_refl _) _
  have hs1 : W.heap.size < W1.heap.size := by rw [hW1]; simp
  have hs0 := hB0.size
  have cj : W1.cell? ⟨jb, 0, none⟩ = some (.slice (some ⟨sb, 0, none⟩) 2 cap) := (hB1.cell (p := ⟨jb, 0, none⟩) (Nat.lt_of_lt_of_le hjb hs0)).trans ((hB0.cell (p := ⟨jb, 0, none⟩) hjb).trans hj)
  have cx0 : W1.cell? ⟨sb, 0, none⟩ = some (.iface T0 y0) := (hB1.cell (p := ⟨sb, 0, none⟩) (Nat.lt_of_lt_of_le hsb hs0)).trans ((hB0.cell (p := ⟨sb, 0, none⟩) hsb).trans hx0)
  have cx1 : W1.cell? ⟨sb, 1, none⟩ = some (.iface T1 y1) := (hB1.cell (p := ⟨sb, 1, none⟩) (Nat.lt_of_lt_of_le hsb hs0)).trans ((hB0.cell (p := ⟨sb, 1, none⟩) hsb).trans hx1)
  have v0 : W1.cell? ⟨W.heap.size, 0, none⟩ = some (.pointer (some ⟨1, 37, none⟩)) := by rw [hW1]; simp
  have v1 : W1.cell? ⟨W.heap.size, 1, none⟩ = some (.pointer (some ⟨ab, 0, none⟩)) := by rw [hW1]; simp
  have v2 : W1.cell? ⟨W.heap.size, 2, none⟩ = some (.int .u64 150) := by rw [hW1]; simp
  have ht1 : W1.heap[tb]? = some (.cells #[old] 27 (0, 0)) := by rw [hB1.block tb hlt]; exact ht
  have ha1 : W1.cell? ⟨ab, 0, none⟩ = some (.pointer (some ⟨tb, 0, none⟩)) := (hB1.cell (p := ⟨ab, 0, none⟩) hab).trans ha
  have hB01 : Below w0.heap.size w0 W1 := hB0.trans (hB1.mono hs0)
  have HC0 : Hid (Calls Tryd.prog 19 #[.iface T0 y0, .iface 37 (.pointer (some ⟨tb, 0, none⟩)), .agg #[.pointer (some ⟨1, 37, none⟩), .pointer (some ⟨ab, 0, none⟩), .int .u64 150], .iface 58 (.agg #[.pointer (some ⟨1, 27, none⟩)])] W1
      fun ev w' => ev = .returned (.bool false) ∧ Below W1.heap.size W1 w') := H0 W1 tb ab old hB01 htb ht1 ha1 (by omega)
  have HC1 : Hid (∀ w2, Below W1.heap.size W1 w2 → Calls Tryd.prog 19 #[.iface T1 y1, .iface 37 (.pointer (some ⟨tb, 0, none⟩)), .agg #[.pointer (some ⟨1, 37, none⟩), .pointer (some ⟨ab, 0, none⟩), .int .u64 150], .iface 58 (.agg #[.pointer (some ⟨1, 27, none⟩)])] w2
      fun ev w' => ev = .returned (.bool true) ∧ w'.cell? ⟨tb, 0, none⟩ = some (.pointer (some e)) ∧ Below tb w2 w') := fun w2 hb2 => H1 w2 tb ab old (hB01.trans (hb2.mono (by omega))) htb (by rw [hb2.block tb (by omega)]; exact ht1) ((hb2.cell (p := ⟨ab, 0, none⟩) (show ab < _ by omega)).trans ha1) (by have := hb2.size; omega)
  clear H0 H1 hj hx0 hx1 ha ht hB0 hB01 ht1 ha1
  have h20 := @run_callFunc_extern Tryd.prog 20 _ ReflectliteType.typeOf Tryd.func20 (by kernel_rfl) (by kernel_rfl) (by kernel_rfl) (by kernel_rfl)
  have h49 := @run_callFunc_extern Tryd.prog 49 _ (ReflectliteType.relation "AssignableTo" ReflectliteType.assignableTo) Tryd.func49 (by kernel_rfl) (by kernel_rfl) (by kernel_rfl) (by kernel_rfl)
  have tO := typeOf39
  have mA := methodAssignableTo
  have mU := methodUnwrap
  have a39 := assignable39
  have n1 := noAs39
  have n2 := noUnwrap39
  have n3 := unwraps39
  have HW : Hid (W1 = W.alloc (.cells #[.pointer (some ⟨1, 37, none⟩), .pointer (some ⟨ab, 0, none⟩), .int .u64 150] 48)) := hW1
  clear hW1
  go_enter Tryd.func19, Tryd.ntmps19
  go_wp2
  rw [← HW.out]
  refine wp_loop_rounds 1 ?_
  rw [rounds_succ]
  go_wp2_with (go_at_call 43; refine (unwrap_any jb _ _ cj).mono ?_; rintro ev w' ⟨rfl, hw'⟩; rw [hw']; clear hw' w')
  refine wp_loop_rounds 2 ?_
  rw [rounds_succ]
  go_wp2_with fail
  refine HC0.out.mono ?_
  rintro ev w2 ⟨rfl, hb2⟩
  have x1 := (hb2.cell (p := ⟨sb, 1, none⟩) (show sb < _ by omega)).trans cx1
  have u0 := (hb2.cell (p := ⟨W.heap.size, 0, none⟩) hs1).trans v0
  have u1 := (hb2.cell (p := ⟨W.heap.size, 1, none⟩) hs1).trans v1
  have u2 := (hb2.cell (p := ⟨W.heap.size, 2, none⟩) hs1).trans v2
  go_wp2_with fail
  rw [rounds_succ]
  go_wp2_with fail
  refine (HC1.out _ hb2).mono ?_
  rintro ev w3 ⟨rfl, hc, hb3⟩
  go_wp2_with fail
  go_ret
  exact ⟨rfl, hc, (hB1.mono (by omega)).trans ((hb2.mono (by omega)).trans hb3)⟩
end Go.Proofs.Qxb6614674aDoor.Al

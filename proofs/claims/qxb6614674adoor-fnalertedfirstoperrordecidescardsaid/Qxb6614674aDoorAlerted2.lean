/-
  alerted and its callers, by their contracts.
-/
import Derived.Test.Qxb6614674aDoorAlerted
namespace Go.Proofs.Qxb6614674aDoor.Al
open Go.RowKit Go.Extern.Stop Go.Stop Go.Extern
set_option linter.unusedVariables false

/-- errors.errorType holds the handle of the type error. -/
def Laid (w : World) : Prop := w.cell? ⟨0, 0, none⟩ = some (.iface 58 (.agg #[.pointer (some ⟨1, 31, none⟩)]))
theorem Laid.pos {w : World} (h : Laid w) : 0 < w.heap.size := by
  unfold Laid at h
  rcases Nat.eq_zero_or_pos w.heap.size with h0 | h'
  · simp [World.cell?, h0] at h
  · exact h'
theorem Laid.below {w w' : World} (h : Laid w) {B : Nat} (hb : Below B w w') (hB : 0 < B) : Laid w' := (hb.cell (p := ⟨0, 0, none⟩) hB).trans h
/-- Is it the words 'remote error'? -/
def isRemote (s : ByteArray) : Bool := s.toList == [114, 101, 109, 111, 116, 101, 32, 101, 114, 114, 111, 114]

set_option maxHeartbeats 1000000 in
theorem alerted_hits (T : TypeId) (y : Value) (eb : Nat) (s : ByteArray) (w : World) (hg : Laid w) (H : Hits w (.iface T y) ⟨eb, 0, none⟩) (hc : w.cell? ⟨eb, 0, none⟩ = some (.string s)) (heb : eb < w.heap.size) :
    Calls Tryd.prog 12 #[.iface T y] w fun ev w' => ev = .returned (.bool (isRemote s)) ∧ Below w.heap.size w w' := by
  have hB0 : Below w.heap.size w (w.alloc (.cells #[.pointer none] 27)) := (Below.refl _ _).alloc (Nat.le_refl _) _
  have hA := As_any T y w.heap.size (w.alloc (.cells #[.pointer none] 27)) (hg.below hB0 hg.pos) (fun b w' => b = true ∧ w'.cell? ⟨w.heap.size, 0, none⟩ = some (.pointer (some ⟨eb, 0, none⟩)) ∧ Below w.heap.size w w') (by
    have hB1 : ∀ o1 o2, Below w.heap.size w (((w.alloc (.cells #[.pointer none] 27)).alloc o1).alloc o2) := fun o1 o2 => (hB0.alloc (by simp) o1).alloc (by simp; omega) o2
    refine (H _ w.heap.size _ (.pointer none) (hB1 _ _) (Nat.le_refl _) ?_ ?_ ?_).mono fun ev w' ⟨he, h1, h2⟩ => ⟨true, he, rfl, h1, (hB1 _ _).trans h2⟩
    · rw [Below.heap_alloc _ _ _ (by simp; omega), Below.heap_alloc _ _ _ (by simp)]; exact heap_alloc_new w _
    · rw [World.cell?_alloc_lt _ _ _ (by simp)]; simp
    · simp)
  have HA : Hid (Calls Tryd.prog 15 #[.iface T y, .iface 37 (.pointer (some ⟨w.heap.size, 0, none⟩))] (w.alloc (.cells #[.pointer none] 27)) fun ev w' => ∃ b, ev = .returned (.bool b) ∧ (b = true ∧ w'.cell? ⟨w.heap.size, 0, none⟩ = some (.pointer (some ⟨eb, 0, none⟩)) ∧ Below w.heap.size w w')) := hA
  clear hA H hB0
  go_enter Tryd.func12, Tryd.ntmps12
  go_wp2_with fail
  refine HA.out.mono ?_
  rintro ev w' ⟨b, rfl, rfl, h1, h2⟩
  have h3 := (h2.cell (p := ⟨eb, 0, none⟩) heb).trans hc
  go_wp2_with fail
  go_ret
  exact ⟨rfl, h2⟩
set_option maxHeartbeats 1000000 in
theorem alerted_misses (T : TypeId) (y : Value) (w : World) (hg : Laid w) (H : Misses w (.iface T y)) :
    Calls Tryd.prog 12 #[.iface T y] w fun ev w' => ev = .returned (.bool false) ∧ Below w.heap.size w w' := by
  have hB0 : Below w.heap.size w (w.alloc (.cells #[.pointer none] 27)) := (Below.refl _ _).alloc (Nat.le_refl _) _
  have hA := As_any T y w.heap.size (w.alloc (.cells #[.pointer none] 27)) (hg.below hB0 hg.pos) (fun b w' => b = false ∧ Below w.heap.size w w') (by
    have hB1 : ∀ o1 o2, Below w.heap.size w (((w.alloc (.cells #[.pointer none] 27)).alloc o1).alloc o2) := fun o1 o2 => (hB0.alloc (by simp) o1).alloc (by simp; omega) o2
    refine (H _ w.heap.size _ (.pointer none) (hB1 _ _) (Nat.le_refl _) ?_ ?_ ?_).mono fun ev w' ⟨he, h2⟩ => ⟨false, he, rfl, (hB1 _ _).trans (h2.mono (by simp; omega))⟩
    · rw [Below.heap_alloc _ _ _ (by simp; omega), Below.heap_alloc _ _ _ (by simp)]; exact heap_alloc_new w _
    · rw [World.cell?_alloc_lt _ _ _ (by simp)]; simp
    · simp)
  have HA : Hid (Calls Tryd.prog 15 #[.iface T y, .iface 37 (.pointer (some ⟨w.heap.size, 0, none⟩))] (w.alloc (.cells #[.pointer none] 27)) fun ev w' => ∃ b, ev = .returned (.bool b) ∧ (b = false ∧ Below w.heap.size w w')) := hA
  clear hA H hB0
  go_enter Tryd.func12, Tryd.ntmps12
  go_wp2_with fail
  refine HA.out.mono ?_
  rintro ev w' ⟨b, rfl, rfl, h2⟩
  go_wp2_with fail
  go_ret
  exact ⟨rfl, h2⟩
set_option maxHeartbeats 400000 in
theorem alerted_nil (w : World) : Calls Tryd.prog 12 #[.nilIface] w fun ev w' => ev = .returned (.bool false) ∧ Below w.heap.size w w' := by
  go_enter Tryd.func12, Tryd.ntmps12
  go_wp2_with fail
  refine (As_nil _ _).mono ?_
  rintro ev w' ⟨rfl, rfl⟩
  go_wp2_with fail
  go_ret
  exact ⟨rfl, (Below.refl _ _).alloc (Nat.le_refl _) _⟩
set_option maxHeartbeats 400000 in
theorem new_any (s : ByteArray) (w : World) : Calls Tryd.prog 14 #[.string s] w fun e w' => e = .returned (.iface 42 (.pointer (some ⟨w.heap.size, 0, none⟩))) ∧ w' = w.alloc (.cells #[.string s] 44) := by
  go_enter Tryd.func14, Tryd.ntmps14
  go_wp2
  go_ret
  exact ⟨rfl, rfl⟩
/-- The world behind errors.Join of two errors. -/
def joined (w : World) (x0 x1 : Value) : World :=
  (((w.alloc (.cells #[x0, x1] 31)).alloc (.cells #[.slice (some ⟨w.heap.size, 0, none⟩) 2 2] 41)).alloc (.cells #[x0] 31)).alloc (.cells #[x1] 31)
theorem joined_below (w : World) (x0 x1 : Value) : Below w.heap.size w (joined w x0 x1) :=
  ((((Below.refl _ w).alloc (Nat.le_refl _) _).alloc (by simp) _).alloc (by simp; omega) _).alloc (by simp; omega) _
theorem joined_size (w : World) (x0 x1 : Value) : (joined w x0 x1).heap.size = w.heap.size + 4 := by simp [joined]
theorem joined_cells (w : World) (x0 x1 : Value) : (joined w x0 x1).cell? ⟨w.heap.size + 1, 0, none⟩ = some (.slice (some ⟨w.heap.size, 0, none⟩) 2 2) ∧ (joined w x0 x1).cell? ⟨w.heap.size, 0, none⟩ = some x0 ∧ (joined w x0 x1).cell? ⟨w.heap.size, 1, none⟩ = some x1 := by
  unfold joined
  refine ⟨?_, ?_, ?_⟩
  · rw [World.cell?_alloc_lt _ _ _ (by simp), World.cell?_alloc_lt _ _ _ (by simp)]; simp
  · rw [World.cell?_alloc_lt _ _ _ (by simp; omega), World.cell?_alloc_lt _ _ _ (by simp; omega), World.cell?_alloc_lt _ _ _ (by simp)]; simp
  · rw [World.cell?_alloc_lt _ _ _ (by simp; omega), World.cell?_alloc_lt _ _ _ (by simp; omega), World.cell?_alloc_lt _ _ _ (by simp)]; simp
set_option maxHeartbeats 1000000 in
theorem join_any (T0 T1 : TypeId) (y0 y1 : Value) (vb : Nat) (w : World) (hvb : vb < w.heap.size) (c0 : w.cell? ⟨vb, 0, none⟩ = some (.iface T0 y0)) (c1 : w.cell? ⟨vb, 1, none⟩ = some (.iface T1 y1)) :
    Calls Tryd.prog 13 #[.slice (some ⟨vb, 0, none⟩) 2 2] w fun e w' => e = .returned (.iface 39 (.pointer (some ⟨w.heap.size + 1, 0, none⟩))) ∧ w' = joined w (.iface T0 y0) (.iface T1 y1) := by
  have hv1 : vb < w.heap.size + 1 := by omega
  have hv2 : vb < w.heap.size + 1 + 1 := by omega
  have hv3 : vb < w.heap.size + 1 + 1 + 1 := by omega
  have hmk : ∀ w, (Instr.makeSlice 38 (.int .i64 0) (.int .i64 2)).run Tryd.prog w = .ok (.slice (some ⟨w.heap.size, 0, none⟩) 0 2) (w.alloc (.cells #[.nilIface, .nilIface] 31)) := fun _ => by kernel_rfl
  go_enter Tryd.func13, Tryd.ntmps13
  go_wp2
  refine wp_loop_rounds 3 ?_
  rw [rounds_succ]
  go_wp2
  rw [rounds_succ]
  go_wp2
  rw [rounds_succ]
  go_wp2
  refine wp_loop_rounds 3 ?_
  rw [rounds_succ]
  go_wp2
  rw [rounds_succ]
  go_wp2
  rw [rounds_succ]
  go_wp2
  go_ret
  exact ⟨rfl, rfl⟩

/-- The same, the heap's size under a name of its own. -/
theorem join_at (T0 T1 : TypeId) (y0 y1 : Value) (vb B : Nat) (w : World) (hB : w.heap.size = B) (hvb : vb < B) (c0 : w.cell? ⟨vb, 0, none⟩ = some (.iface T0 y0)) (c1 : w.cell? ⟨vb, 1, none⟩ = some (.iface T1 y1)) :
    Calls Tryd.prog 13 #[.slice (some ⟨vb, 0, none⟩) 2 2] w fun e w' => e = .returned (.iface 39 (.pointer (some ⟨B + 1, 0, none⟩))) ∧ w' = joined w (.iface T0 y0) (.iface T1 y1) := by
  subst hB
  exact join_any T0 T1 y0 y1 vb w hvb c0 c1

/-! ### The callers -/
set_option maxHeartbeats 400000 in
theorem op_any (s : ByteArray) (w : World) (hg : Laid w) : Calls Tryd.prog 6 #[.string s] w fun ev w' => ev = .returned (.bool (isRemote s)) ∧ Below w.heap.size w w' := by
  have hB : ∀ o, Below w.heap.size w (w.alloc o) := fun o => (Below.refl _ _).alloc (Nat.le_refl _) o
  go_enter Tryd.func6, Tryd.ntmps6
  go_wp2_with fail
  refine (alerted_hits 27 _ w.heap.size s _ (hg.below (hB _) hg.pos) (hits_op _ _) ?_ ?_).mono ?_
  · simp
  · simp
  · rintro ev w' ⟨rfl, hb⟩
    go_wp2_with fail
    go_ret
    exact ⟨rfl, (hB _).trans (hb.mono (by simp))⟩
set_option maxHeartbeats 400000 in
theorem text_any (s : ByteArray) (w : World) (hg : Laid w) : Calls Tryd.prog 11 #[.string s] w fun ev w' => ev = .returned (.bool false) ∧ Below w.heap.size w w' := by
  have hB : ∀ o, Below w.heap.size w (w.alloc o) := fun o => (Below.refl _ _).alloc (Nat.le_refl _) o
  go_enter Tryd.func11, Tryd.ntmps11
  go_wp2_with fail
  refine (new_any s _).mono ?_
  rintro ev w1 ⟨rfl, rfl⟩
  go_wp2_with fail
  refine (alerted_misses 42 _ _ (hg.below (hB _) hg.pos) (misses_plain _ _)).mono ?_
  rintro ev w' ⟨rfl, hb⟩
  go_wp2_with fail
  go_ret
  exact ⟨rfl, (hB _).trans (hb.mono (by simp))⟩
set_option maxHeartbeats 400000 in
theorem nil_any (w : World) : Calls Tryd.prog 10 #[] w fun ev w' => ev = .returned (.bool false) ∧ Below w.heap.size w w' := by
  go_enter Tryd.func10, Tryd.ntmps10
  go_wp2_with fail
  refine (alerted_nil _).mono ?_
  rintro ev w' ⟨rfl, hb⟩
  go_wp2_with fail
  go_ret
  exact ⟨rfl, hb⟩
end Go.Proofs.Qxb6614674aDoor.Al

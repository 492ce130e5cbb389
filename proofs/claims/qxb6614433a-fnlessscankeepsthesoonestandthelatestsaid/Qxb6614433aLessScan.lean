/-
  The expiry heap, filled: Len and Less by their contracts; and what the pushed entries' cells hold.
-/
import Derived.Test.Qxb6614433aLessPush
namespace Go.Proofs.Qxb6614433a.Less
open Go.RowKit
set_option linter.unusedVariables false

/-- The cells of the first k entries. -/
def cells (K E : Nat → Int) : Nat → List Value
  | 0 => []
  | k + 1 => cells K E k ++ [.int .u64 (K k), .int .i64 (E k)]
theorem cells_length (K E : Nat → Int) (k : Nat) : (cells K E k).length = k * 2 := by
  induction k with
  | zero => rfl
  | succ k ih => simp [cells, ih]; omega
theorem cells_at (K E : Nat → Int) (k i : Nat) (h : i < k) : (cells K E k)[i * 2 + 1]? = some (.int .i64 (E i)) := by
  induction k with
  | zero => omega
  | succ k ih =>
    have hl := cells_length K E k
    by_cases e : i < k
    · rw [cells, List.getElem?_append_left (by omega)]; exact ih e
    · obtain rfl : i = k := by omega
      rw [cells, List.getElem?_append_right (by omega), hl]
      simp

/-- The heap holds n entries that go stale at E 0, E 1, ..: n at least one. -/
structure Full (w : World) (hb g n cap : Nat) (E : Nat → Int) : Prop where
  var : w.cell? ⟨hb, 0, none⟩ = some (.slice (some ⟨g, 0, none⟩) n cap)
  ent : ∀ i, i < n → w.cell? ⟨g, i * 2 + 1, none⟩ = some (.int .i64 (E i))
theorem Full.drewN {w : World} {hb g n cap : Nat} {E : Nat → Int} (h : Full w hb g n cap E) (m : Nat) : Full (w.drewN m) hb g n cap E := ⟨h.var, h.ent⟩
theorem full_of {w : World} {hb n : Nat} {v : Value} {K E : Nat → Int} (h : Held w hb v n (cells K E n)) (hn : 0 < n) : ∃ g cap, Full w hb g n cap E := by
  obtain ⟨g, cap, rfl, _, _⟩ := h.row.form hn
  refine ⟨g, cap, cell_of_one h.one, fun i hi => ?_⟩
  have hlt : i * 2 + 1 < n * 2 := by omega
  have hx := h.row.cellAt (i * 2 + 1) hlt
  have hc := cells_at K E n i hi
  simp_all
set_option maxHeartbeats 400000 in
theorem len_any (w : World) (hb g n cap : Nat) (E : Nat → Int) (h : Full w hb g n cap E) :
    Calls Try.prog 9 #[.pointer (some ⟨hb, 0, none⟩)] w fun e w' => e = .returned (.int .i64 n) ∧ w' = w := by
  have hv := h.var
  go_enter Try.func9, Try.ntmps9
  go_wp2
  go_ret
  exact ⟨rfl, rfl⟩
set_option maxHeartbeats 400000 in
theorem less_low (w : World) (g n cap i j : Nat) (x y : Int) (hi : (i : Int) < n) (hj : (j : Int) < n) (hx : w.cell? ⟨g, i * 2 + 1, none⟩ = some (.int .i64 x)) (hy : w.cell? ⟨g, j * 2 + 1, none⟩ = some (.int .i64 y)) :
    Calls Try.prog 18 #[.slice (some ⟨g, 0, none⟩) n cap, .int .i64 i, .int .i64 j] w fun e w' => e = .returned (.bool (decide (x < y))) ∧ ∃ m, w' = w.drewN m := by
  go_enter Try.func18, Try.ntmps18
  go_wp2
  go_quiet (fail)
  go_wp2
  go_ret
  exact ⟨rfl, _, rfl⟩
set_option maxHeartbeats 400000 in
theorem less_any (w : World) (hb g n cap i j : Nat) (E : Nat → Int) (h : Full w hb g n cap E) (hi : i < n) (hj : j < n) :
    Calls Try.prog 10 #[.pointer (some ⟨hb, 0, none⟩), .int .i64 i, .int .i64 j] w fun e w' => e = .returned (.bool (decide (E i < E j))) ∧ ∃ m, w' = w.drewN m := by
  have hv := h.var
  go_enter Try.func10, Try.ntmps10
  go_wp2_with (go_at_call 18; refine (less_low _ g n cap i j (E i) (E j) (by omega) (by omega) (h.ent i hi) (h.ent j hj)).mono ?_; rintro e w' ⟨rfl, m, rfl⟩)
  go_ret
  exact ⟨rfl, _, rfl⟩
end Go.Proofs.Qxb6614433a.Less

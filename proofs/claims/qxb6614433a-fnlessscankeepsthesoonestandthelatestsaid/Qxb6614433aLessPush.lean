/-
  The expiry heap: Push, Len, Less by their contracts.
-/
import Derived.Test.Qxb6614433aRows
import Derived.WalkKit
import Derived.WalkSpells
import Derived.WalkLawsBesides
import Derived.Deep.QuietTactic
import Derived.BigQuiet
import Derived.Deep.AppendLies
import Derived.Deep.RegionHeld3
import Derived.Deep.RegionLaw
namespace Go.Proofs.Qxb6614433a.Less
open Go.RowKit
set_option linter.unusedVariables false

theorem Try.info45 : (Try.prog.info? 45).map (fun i => (i.zero, i.size, i.bytes)) = some (some (.agg #[.int .u64 0, .int .i64 0]), 2, 16) := by kernel_rfl

/-- The heap's variable lies in block hb and holds v, a slice of k entries of the call's own, whose cells are xs. -/
structure Held (w : World) (hb : Nat) (v : Value) (k : Nat) (xs : List Value) : Prop where
  one : w.heap[hb]? = some (.cells #[v] 41 (0, 0))
  row : w.ownsRow (hb + 1) 45 2 v k xs

theorem assert45 (x : Value) (w : World) : (Instr.typeAssert (.iface 45 x) 20 45 false).run Try.prog w = .ok x w := by kernel_rfl

theorem Held.drew {w : World} {hb k : Nat} {v : Value} {xs : List Value} (h : Held w hb v k xs) : Held w.drew hb v k xs := ⟨h.one, h.row⟩
theorem Held.apart {w : World} {hb k : Nat} {v : Value} {xs : List Value} (h : Held w hb v k xs) : some hb ≠ v.ownBlock := by
  rcases h.row.2 with ⟨hv, _⟩ | ⟨g, cap, cur, hv, hg, _⟩
  · rw [hv]; simp [Value.ownBlock]
  · rw [hv]; simp [Value.ownBlock]; omega
theorem Held.grown {w W w1 : World} {hb k : Nat} {v : Value} {xs : List Value} (h : Held w hb v k xs) (hB : Below w.heap.size w W) (hg : W.grownBy w1 v.ownBlock) : w1.heap[hb]? = some (.cells #[v] 41 (0, 0)) := by
  have hlt := lt_of_block h.one
  rw [hg.block hb (Nat.lt_of_lt_of_le hlt hB.size) h.apart, hB.block hb hlt]
  exact h.one
theorem Held.pushed {w W w1 : World} {hb k : Nat} {v v' : Value} {xs ys : List Value} (h : Held w hb v k xs) (hB : Below w.heap.size w W) (hg : W.grownBy w1 v.ownBlock) (ho : w1.ownsRow (hb + 1) 45 2 v' (k + 1) ys) :
    Held (w1.setCell ⟨hb, 0, none⟩ v') hb v' (k + 1) ys ∧ Below hb w (w1.setCell ⟨hb, 0, none⟩ v') := by
  have hlt := lt_of_block h.one
  refine ⟨⟨one_setCell (h.grown hB hg), ownsRow_setCell_below ho (by simp) _⟩, ?_⟩
  refine Below.setCell (Below.grown (hB.mono (by omega)) hg (by have := hB.size; omega) ?_) (by simp) _
  intro j hj
  rcases h.row.2 with ⟨hv, _⟩ | ⟨g, cap, cur, hv, hg', _⟩
  · rw [hv] at hj; simp [Value.ownBlock] at hj
  · rw [hv] at hj; simp [Value.ownBlock] at hj; omega

set_option maxHeartbeats 400000 in
/-- (*expiryHeap).Push: one entry more. -/
theorem push_low (w : World) (hb k : Nat) (v : Value) (xs : List Value) (key ex : Int) (h : Held w hb v k xs) (hk : k < 65536) :
    Calls Try.prog 16 #[.pointer (some ⟨hb, 0, none⟩), .iface 45 (.agg #[.int .u64 key, .int .i64 ex])] w fun e w' => e = .returned (.tuple #[]) ∧ ∃ v', Held w' hb v' (k + 1) (xs ++ [.int .u64 key, .int .i64 ex]) ∧ Below hb w w' := by
  obtain ⟨i0, hi, hz0, hz1, hz2⟩ := info_parts Try.info45
  have hc := cell_of_one h.one
  have hf := free_of_one h.one
  have ha := assert45
  have hlt := lt_of_block h.one
  have hb1 : k + 1 ≤ maxLen := by unfold maxLen; omega
  have hb2 : (k + 1) * 16 ≤ 140737488355328 := by omega
  have hone : ∀ u ∈ [Value.int .u64 key, .int .i64 ex], u.oneCell' = true := by intro u hu; simp at hu; rcases hu with rfl | rfl <;> rfl
  go_enter Try.func16, Try.ntmps16
  go_wp2
  go_region_law (refine step_append_lies _ rfl (.tmp 7) (.tmp 10) 41 rfl (hb + 1) 45 i0 (.agg #[.int .u64 0, .int .i64 0]) 2 16 Try.underlying41 hi hz0 hz1 hz2 rfl (by decide) v k xs (by simp [Act.eval]) (by exact h.row.alloc _) ⟨w.heap.size, 0, none⟩ 1 1 [.int .u64 key, .int .i64 ex] (by simp [Act.eval]) rfl (World.news_of_block (by exact heap_alloc_new _ _)) hone (by decide) hb1 hb2 (by simp; omega) _ rfl ?_; intro g cap w1 hown hgrow hat hgl; have hB : Below w.heap.size w ((w.alloc (.cells #[.int .u64 key, .int .i64 ex] 45)).drew) := ((Below.refl _ w).alloc (Nat.le_refl _) _).drew; have hc1 := cell_of_one (h.grown hB hgrow); have hf1 := free_of_one (h.grown hB hgrow); have R := h.pushed hB hgrow hown; clear hgrow hown)
  all_goals (go_end0; exact ⟨rfl, _, R⟩)
set_option maxHeartbeats 400000 in
theorem push_any (w : World) (hb k : Nat) (v : Value) (xs : List Value) (key ex : Int) (h : Held w hb v k xs) (hk : k < 65536) :
    Calls Try.prog 8 #[.pointer (some ⟨hb, 0, none⟩), .int .u64 key, .int .i64 ex] w fun e w' => e = .returned (.tuple #[]) ∧ ∃ v', Held w' hb v' (k + 1) (xs ++ [.int .u64 key, .int .i64 ex]) ∧ Below hb w w' := by
  go_enter Try.func8, Try.ntmps8
  go_wp2_with (go_at_call 16; refine (push_low _ hb k v xs key ex h hk).mono ?_; rintro e w' ⟨rfl, v', hv'⟩)
  go_end0
  exact ⟨rfl, _, hv'⟩
end Go.Proofs.Qxb6614433a.Less

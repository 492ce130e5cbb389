/-
  The joined errors' callers, and the two laws' walks.
-/
import Derived.Test.Qxb6614674aDoorAlerted2
namespace Go.Proofs.Qxb6614674aDoor.Al
open Go.RowKit Go.Extern.Stop Go.Stop Go.Extern
set_option linter.unusedVariables false

/-- A joined pair whose first element is found. -/
theorem alerted_first (W : World) (B : Nat) (hB : W.heap.size = B) (x1 : Value) (eb : Nat) (s : ByteArray) (hg : Laid W) (heb : eb < B) (hc : W.cell? ⟨eb, 0, none⟩ = some (.string s)) :
    Calls Tryd.prog 12 #[.iface 39 (.pointer (some ⟨B + 1, 0, none⟩))] (joined W (.iface 27 (.pointer (some ⟨eb, 0, none⟩))) x1) fun ev w' => ev = .returned (.bool (isRemote s)) ∧ Below B W w' := by
  subst hB
  obtain ⟨j0, j1, j2⟩ := joined_cells W (.iface 27 (.pointer (some ⟨eb, 0, none⟩))) x1
  have hs := joined_size W (.iface 27 (.pointer (some ⟨eb, 0, none⟩))) x1
  have hb := joined_below W (.iface 27 (.pointer (some ⟨eb, 0, none⟩))) x1
  refine (alerted_hits 39 _ eb s _ (hg.below hb hg.pos) (hits_first _ (W.heap.size + 1) W.heap.size 2 27 _ ⟨eb, 0, none⟩ j0 (by omega) (by omega) j1 (hits_op _ _)) ((hb.cell (p := ⟨eb, 0, none⟩) heb).trans hc) (by omega)).mono ?_
  rintro ev w' ⟨he, h2⟩
  exact ⟨he, hb.trans (h2.mono (by omega))⟩
/-- A joined pair whose first element is a plain error and whose second is found. -/
theorem alerted_second (W : World) (B : Nat) (hB : W.heap.size = B) (y0 : Value) (eb : Nat) (s : ByteArray) (hg : Laid W) (heb : eb < B) (hc : W.cell? ⟨eb, 0, none⟩ = some (.string s)) :
    Calls Tryd.prog 12 #[.iface 39 (.pointer (some ⟨B + 1, 0, none⟩))] (joined W (.iface 42 y0) (.iface 27 (.pointer (some ⟨eb, 0, none⟩)))) fun ev w' => ev = .returned (.bool (isRemote s)) ∧ Below B W w' := by
  subst hB
  obtain ⟨j0, j1, j2⟩ := joined_cells W (.iface 42 y0) (.iface 27 (.pointer (some ⟨eb, 0, none⟩)))
  have hs := joined_size W (.iface 42 y0) (.iface 27 (.pointer (some ⟨eb, 0, none⟩)))
  have hb := joined_below W (.iface 42 y0) (.iface 27 (.pointer (some ⟨eb, 0, none⟩)))
  refine (alerted_hits 39 _ eb s _ (hg.below hb hg.pos) (hits_second _ (W.heap.size + 1) W.heap.size 2 42 27 _ _ ⟨eb, 0, none⟩ j0 (by omega) (by omega) j1 j2 (misses_plain _ _) (hits_op _ _)) ((hb.cell (p := ⟨eb, 0, none⟩) heb).trans hc) (by omega)).mono ?_
  rintro ev w' ⟨he, h2⟩
  exact ⟨he, hb.trans (h2.mono (by omega))⟩

set_option maxHeartbeats 400000 in
/-- ZZAlertedJoinTextOp. -/
theorem textop_any (t s : ByteArray) (w : World) (hg : Laid w) : Calls Tryd.prog 7 #[.string t, .string s] w fun ev w' => ev = .returned (.bool (isRemote s)) ∧ Below w.heap.size w w' := by
  have hB : ∀ o1 o2 o3, Below w.heap.size w (((w.alloc o1).alloc o2).alloc o3) := fun o1 o2 o3 => (((Below.refl _ w).alloc (Nat.le_refl _) o1).alloc (by simp) o2).alloc (by simp; omega) o3
  go_enter Tryd.func7, Tryd.ntmps7
  go_wp2_with fail
  refine (new_any t _).mono ?_
  rintro ev w1 ⟨rfl, rfl⟩
  go_wp2_with fail
  refine (join_at 42 27 (.pointer (some ⟨w.heap.size, 0, none⟩)) (.pointer (some ⟨w.heap.size + 1, 0, none⟩)) (w.heap.size + 1 + 1) (w.heap.size + 1 + 1 + 1) _ ?hs ?hv ?hx0 ?hx1).mono ?_
  case hs => simp
  case hv => omega
  case hx0 => go_simp
  case hx1 => go_simp
  rintro ev w1 ⟨rfl, rfl⟩
  go_wp2_with fail
  refine (alerted_second _ (w.heap.size + 1 + 1 + 1) ?hs (.pointer (some ⟨w.heap.size, 0, none⟩)) (w.heap.size + 1) s ?hg ?he ?hc).mono ?_
  case hs => simp
  case hg => exact hg.below (hB _ _ _) hg.pos
  case he => omega
  case hc => go_simp
  rintro ev w2 ⟨rfl, hb⟩
  go_wp2_with fail
  go_ret
  exact ⟨rfl, (hB _ _ _).trans (hb.mono (by omega))⟩
set_option maxHeartbeats 400000 in
/-- ZZAlertedJoinOps. -/
theorem ops_any (a b : ByteArray) (w : World) (hg : Laid w) : Calls Tryd.prog 8 #[.string a, .string b] w fun ev w' => ev = .returned (.bool (isRemote a)) ∧ Below w.heap.size w w' := by
  have hB : ∀ o1 o2 o3, Below w.heap.size w (((w.alloc o1).alloc o2).alloc o3) := fun o1 o2 o3 => (((Below.refl _ w).alloc (Nat.le_refl _) o1).alloc (by simp) o2).alloc (by simp; omega) o3
  go_enter Tryd.func8, Tryd.ntmps8
  go_wp2_with fail
  refine (join_at 27 27 (.pointer (some ⟨w.heap.size, 0, none⟩)) (.pointer (some ⟨w.heap.size + 1, 0, none⟩)) (w.heap.size + 1 + 1) (w.heap.size + 1 + 1 + 1) _ ?hs ?hv ?hx0 ?hx1).mono ?_
  case hs => simp
  case hv => omega
  case hx0 => go_simp
  case hx1 => go_simp
  rintro ev w1 ⟨rfl, rfl⟩
  go_wp2_with fail
  refine (alerted_first _ (w.heap.size + 1 + 1 + 1) ?hs _ w.heap.size a ?hg ?he ?hc).mono ?_
  case hs => simp
  case hg => exact hg.below (hB _ _ _) hg.pos
  case he => omega
  case hc => go_simp
  rintro ev w2 ⟨rfl, hb⟩
  go_wp2_with fail
  go_ret
  exact ⟨rfl, (hB _ _ _).trans (hb.mono (by omega))⟩

set_option maxHeartbeats 400000 in
theorem bytes3 (p q m : ByteArray) (w : World) (h1 : p.size ≤ maxLen) (h2 : q.size ≤ maxLen) (h3 : m.size ≤ maxLen) :
    Calls Tryd.prog 5 #[.string p, .string q, .string m] w fun e w' => (∃ b, e = .returned (.bool b)) ∧ w' = w := by
  unfold maxLen at h1 h2 h3
  go_enter Tryd.func5, Tryd.ntmps5
  go_wp2
  all_goals (go_ret; exact ⟨⟨_, rfl⟩, rfl⟩)
set_option maxHeartbeats 400000 in
theorem bytes1 (p : ByteArray) (w : World) (h1 : p.size ≤ maxLen) :
    Calls Tryd.prog 9 #[.string p] w fun e w' => (∃ b, e = .returned (.bool b)) ∧ w' = w := by
  unfold maxLen at h1
  go_enter Tryd.func9, Tryd.ntmps9
  go_wp2
  all_goals (go_ret; exact ⟨⟨_, rfl⟩, rfl⟩)
end Go.Proofs.Qxb6614674aDoor.Al

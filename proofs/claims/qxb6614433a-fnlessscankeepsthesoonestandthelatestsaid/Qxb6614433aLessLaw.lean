/-
  The law's walk: the list pushed, the two scans, the two marks.
-/
import Derived.Test.Qxb6614433aLessScan
import Derived.Test.Qxb6614433aLessPlain
namespace Go.Proofs.Qxb6614433a.Less
open Go.RowKit
set_option linter.unusedVariables false

set_option maxHeartbeats 400000 in
theorem bytes_yes (a : Option Addr) (len cap : Nat) (w : World) (h : len ≤ 1048576) :
    Calls Try.prog 6 #[.slice a len cap] w fun e w' => e = .returned (.bool true) ∧ w' = w := by
  go_enter Try.func6, Try.ntmps6
  go_wp2
  go_ret
  exact ⟨rfl, rfl⟩
set_option maxHeartbeats 400000 in
theorem bytes_no (a : Option Addr) (len cap : Nat) (w : World) (h : 1048576 < len) :
    Calls Try.prog 6 #[.slice a len cap] w fun e w' => e = .returned (.bool false) ∧ w' = w := by
  go_enter Try.func6, Try.ntmps6
  go_wp2
  go_ret
  exact ⟨rfl, rfl⟩
set_option maxHeartbeats 400000 in
theorem new_any (w : World) : Calls Try.prog 7 #[] w fun e w' => e = .returned (.pointer (some ⟨w.heap.size, 0, none⟩)) ∧ w' = w.alloc (.cells #[.slice none 0 0] 41) := by
  go_enter Try.func7, Try.ntmps7
  go_wp2
  go_ret
  exact ⟨rfl, rfl⟩
theorem new_held (w : World) (K E : Nat → Int) : Held (w.alloc (.cells #[.slice none 0 0] 41)) w.heap.size (.slice none 0 0) 0 (cells K E 0) :=
  ⟨heap_alloc_new w _, World.ownsRow_nil _ _ _ _⟩

set_option maxHeartbeats 400000 in
theorem law_much (a : Option Addr) (len cap : Nat) (w : World) (h : 65536 < len) :
    Calls Try.prog 3 #[.slice a len cap] w fun e w' => e = .returned (.bool true) ∧ Below w.heap.size w w' := by
  by_cases h' : 1048576 < len
  · go_enter Try.func3, Try.ntmps3
    go_wp2_with (go_at_call 6; refine (bytes_no _ _ _ _ h').mono ?_; rintro e w' ⟨rfl, rfl⟩)
    go_ret
    exact ⟨rfl, Below.refl _ _⟩
  · go_enter Try.func3, Try.ntmps3
    go_wp2_with (go_at_call 6; refine (bytes_yes _ _ _ _ (by omega)).mono ?_; rintro e w' ⟨rfl, rfl⟩)
    go_ret
    exact ⟨rfl, Below.refl _ _⟩
set_option maxHeartbeats 400000 in
theorem law_none (a : Option Addr) (cap : Nat) (w : World) :
    Calls Try.prog 3 #[.slice a 0 cap] w fun e w' => e = .returned (.bool true) ∧ Below w.heap.size w w' := by
  go_enter Try.func3, Try.ntmps3
  go_wp2_with (go_at_call 6; refine (bytes_yes _ _ _ _ (by omega)).mono ?_; rintro e w' ⟨rfl, rfl⟩)
  go_ret
  exact ⟨rfl, Below.refl _ _⟩

set_option maxHeartbeats 1000000 in
theorem law_some (b off len cap : Nat) (K E : Nat → Int) (w : World) (h1 : 1 ≤ len) (h2 : len ≤ 65536) (hb : b < w.heap.size)
    (hK : ∀ i, i < len → w.cell? ⟨b, off + i * 2, none⟩ = some (.int .u64 (K i))) (hE : ∀ i, i < len → w.cell? ⟨b, off + i * 2 + 1, none⟩ = some (.int .i64 (E i))) :
    Calls Try.prog 3 #[.slice (some ⟨b, off, none⟩) len cap] w fun e w' => e = .returned (.bool true) ∧ Below w.heap.size w w' := by
  have hz : ((len : Int) == 0) = false := by simp; omega
  go_enter Try.func3, Try.ntmps3
  go_wp2_with fail
  refine (bytes_yes _ _ _ _ (by omega)).mono ?_
  rintro e w1 ⟨rfl, hw1⟩
  subst hw1
  go_wp2_with fail
  refine (new_any _).mono ?_
  rintro e w2 ⟨rfl, hw2⟩
  have H0 := new_held w1 K E
  have B0 : Below w1.heap.size w1 w2 := by rw [hw2]; exact (Below.refl _ _).alloc (Nat.le_refl _) _
  rw [← hw2] at H0
  clear hw2
  go_wp2_with fail
  go_loopw [4] (fun i wr => ∃ (k : Nat) (v : Value), k ≤ len ∧ i = .int .i64 k ∧ Held wr w1.heap.size v k (cells K E k) ∧ Below w1.heap.size w1 wr) (fun i _ => len - (intOf i).toNat)
  case atStart => exact ⟨0, _, by omega, rfl, H0, B0⟩
  case round =>
    clear H0 B0
    obtain ⟨k, v, hk, rfl, HH, HB⟩ := hrel
    by_cases hlt : k < len
    · have hKk : wr.cell? ⟨b, off + k * 2, none⟩ = some (.int .u64 (K k)) := (HB.cell (by exact hb)).trans (hK k hlt)
      have hEk : wr.cell? ⟨b, off + k * 2 + 1, none⟩ = some (.int .i64 (E k)) := (HB.cell (by exact hb)).trans (hE k hlt)
      go_wp2_with fail
      go_region_with (go_at_call 8; refine (push_any _ w1.heap.size k v (cells K E k) (K k) (E k) ?_ (by omega)).mono ?_; exact HH.drew; rintro e w' ⟨rfl, v', hv'⟩)
      all_goals
        go_wp2_with fail
        go_roundw
        case rel => exact ⟨k + 1, v', by omega, by go_num, hv'.1, HB.drew.trans hv'.2⟩
        case measure => simp [intOf]; omega
    · obtain rfl : k = len := by omega
      obtain ⟨g, hcap, HF⟩ := full_of HH (by omega)
      have hA : ∀ i, i < k → wr.cell? ⟨b, off + i * 2 + 1, none⟩ = some (.int .i64 (E i)) := fun i hi => (HB.cell (by exact hb)).trans (hE i hi)
      have hA0 := hA 0 (by omega)
      simp only [Nat.zero_mul, Nat.add_zero] at hA0
      clear HH hK hE
      go_wp2_with fail
      refine (len_any _ _ g k hcap E HF).mono ?_
      rintro e w2 ⟨rfl, rfl⟩
      go_wp2_with fail
      go_loopw [5, 6, 7] (fun s l i wq => ∃ (j p q m : Nat), 1 ≤ j ∧ j ≤ k ∧ i = .int .i64 j ∧ s = .int .i64 p ∧ l = .int .i64 q ∧ IsMin E j p ∧ IsMax E j q ∧ wq = w2.drewN m) (fun _ _ i _ => k - (intOf i).toNat)
      case atStart => exact ⟨1, 0, 0, 0, by omega, by omega, rfl, rfl, rfl, IsMin.one E, IsMax.one E, rfl⟩
      case round =>
        obtain ⟨j, p, q, m, hj1, hj2, rfl, rfl, rfl, hmin, hmax, rfl⟩ := hrel
        by_cases hjk : j < k
        · have hp := hmin.lt
          have hq := hmax.lt
          by_cases c1 : E j < E p <;> by_cases c2 : E q < E j
          all_goals
            go_wp2_with fail
            refine (less_any _ _ g k hcap j p E (by exact ⟨HF.var, HF.ent⟩) hjk (by omega)).mono ?_
            rintro e w' ⟨rfl, m1, rfl⟩
            go_wp2_with fail
            refine (less_any _ _ g k hcap q j E (by exact ⟨HF.var, HF.ent⟩) (by omega) hjk).mono ?_
            rintro e w' ⟨rfl, m2, rfl⟩
            go_wp2_with fail
            go_roundw
            case rel => exact ⟨j + 1, _, _, m + m1 + m2, by omega, by omega, by go_num, rfl, rfl, by first | exact hmin.yes (by omega) | exact hmin.no (by omega), by first | exact hmax.yes (by omega) | exact hmax.no (by omega), by simp⟩
            case measure => simp [intOf]; omega
        · obtain rfl : j = k := by omega
          clear HF
          go_wp2_with fail
          go_loop [8, 9, 10] (fun lo hi i => ∃ (x s t : Nat), 1 ≤ x ∧ x ≤ j ∧ i = .int .i64 x ∧ lo = .int .i64 (E s) ∧ hi = .int .i64 (E t) ∧ IsMin E x s ∧ IsMax E x t) (fun _ _ i => j - (intOf i).toNat)
          case atStart => exact ⟨1, 0, 0, by omega, by omega, rfl, rfl, rfl, IsMin.one E, IsMax.one E⟩
          case round =>
            obtain ⟨x, s, t, hx1, hx2, rfl, rfl, rfl, gmin, gmax⟩ := hrel
            by_cases hxj : x < j
            · have hAx := hA x hxj
              by_cases c1 : E x < E s <;> by_cases c2 : E t < E x
              all_goals
                go_wp2_with fail
                go_round
                case rel => exact ⟨x + 1, _, _, by omega, by omega, by go_num, rfl, rfl, by first | exact gmin.yes (by omega) | exact gmin.no (by omega), by first | exact gmax.yes (by omega) | exact gmax.no (by omega)⟩
                case measure => simp [intOf]; omega
            · obtain rfl : x = j := by omega
              obtain rfl := hmin.unique gmin
              obtain rfl := hmax.unique gmax
              clear hA0
              go_wp2_with fail
              go_loop [11, 12, 13] (fun f1 f2 i => ∃ (y : Nat) (a c : Int), y ≤ x ∧ i = .int .i64 y ∧ f1 = .int .i64 a ∧ f2 = .int .i64 c ∧ First E y (E p) a ∧ First E y (E q) c) (fun _ _ i => x - (intOf i).toNat)
              case atStart => exact ⟨0, -1, -1, by omega, rfl, rfl, rfl, First.none E _, First.none E _⟩
              case round =>
                obtain ⟨y, a, c, hy, rfl, rfl, rfl, F1, F2⟩ := hrel
                by_cases hyx : y < x
                · have hAy := hA y hyx
                  rcases F1.step with ⟨s1, s2, R1⟩ | ⟨s1, s2, R1⟩ | ⟨s1, R1⟩ <;> rcases F2.step with ⟨t1, t2, R2⟩ | ⟨t1, t2, R2⟩ | ⟨t1, R2⟩
                  all_goals
                    clear F1 F2
                    go_wp2_with fail
                    go_round
                    case rel => exact ⟨y + 1, _, _, by omega, by go_num, rfl, rfl, R1, R2⟩
                    case measure => simp [intOf]; omega
                · obtain rfl : y = x := by omega
                  have e1 := F1.min hmin
                  have e2 := F2.max hmax
                  subst e1
                  subst e2
                  go_wp2_with fail
                  go_ret
                  exact ⟨rfl, HB.os, HB.tape, HB.output, HB.size, HB.block⟩
end Go.Proofs.Qxb6614433a.Less

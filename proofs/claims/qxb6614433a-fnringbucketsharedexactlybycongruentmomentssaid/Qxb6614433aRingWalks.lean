import Derived.Test.Qxb6614433aRows
import Derived.Test.Qxb6614433aRing
import Derived.WalkKit
import Derived.WalkSpells
import Derived.WalkLawsBesides
import Derived.Deep.QuietTactic
import Derived.BigQuiet
import Derived.Laws.BitsAllLaws
import Derived.LaidEqlPtr
namespace Go.Proofs.Qxb6614433a.Ring
open Go.RowKit
set_option linter.unusedVariables false

set_option maxHeartbeats 400000 in
theorem pow_low (n : Int) (w : World) (h : ¬ 1 ≤ n) :
    Calls Try.prog 11 #[.int .i64 n] w fun e w' => e = .returned (.bool false) ∧ w' = w := by
  go_enter Try.func11, Try.ntmps11
  go_wp2
  go_ret
  exact ⟨rfl, rfl⟩
set_option maxHeartbeats 400000 in
theorem pow_high (n : Int) (w : World) (h : 1 ≤ n) (h' : ¬ n ≤ 65536) :
    Calls Try.prog 11 #[.int .i64 n] w fun e w' => e = .returned (.bool false) ∧ w' = w := by
  go_enter Try.func11, Try.ntmps11
  go_wp2
  go_ret
  exact ⟨rfl, rfl⟩
set_option maxHeartbeats 400000 in
theorem pow_mid (n : Int) (w : World) (h : 1 ≤ n) (h' : n ≤ 65536) :
    Calls Try.prog 11 #[.int .i64 n] w fun e w' => e = .returned (.bool (bits .and .i64 n (n - 1) == 0)) ∧ w' = w := by
  go_enter Try.func11, Try.ntmps11
  go_wp2
  go_ret
  exact ⟨rfl, rfl⟩

theorem ret_int {k : IntKind} {a b : Int} (h : a = b) : Ending.returned (.int k a) = .returned (.int k b) := by rw [h]
set_option maxHeartbeats 400000 in
/-- floorMod: the non-negative remainder. -/
theorem floor_mod (t n : Int) (w : World) (h : 1 ≤ n) (h' : n ≤ 65536) :
    Calls Try.prog 15 #[.int .i64 t, .int .i64 n] w fun e w' => e = .returned (.int .i64 (t % n)) ∧ w' = w := by
  have hf : Hid ((if t.tmod n < 0 then t.tmod n + n else t.tmod n) = t % n) := floor_eq t n (by omega)
  have hl : -n < t.tmod n := Int.lt_tmod_of_pos t (by omega)
  by_cases hc : t.tmod n < 0
  · go_enter Try.func15, Try.ntmps15
    go_wp2
    go_ret
    exact ⟨ret_int (by have := hf.out; rw [if_pos hc] at this; exact this), rfl⟩
  · go_enter Try.func15, Try.ntmps15
    go_wp2
    go_ret
    exact ⟨ret_int (by have := hf.out; rw [if_neg (by omega)] at this; exact this), rfl⟩

theorem Try.info66 : (Try.prog.info? 66).map (fun i => (i.zero, i.size, i.bytes)) = some (some (.agg #[.slice none 0 0, .int .i64 0]), 2, 32) := by kernel_rfl

/-- What the ring's block holds: n buckets of two cells each. -/
def rings (n : Nat) : Array Value := madeCells #[.slice none 0 0, .int .i64 0] (n * 2)
theorem run_rings (n : Nat) (h : n ≤ 65536) (w : World) : (Instr.makeSlice 48 (.int .i64 n) (.int .i64 n)).run Try.prog w = .ok (.slice (some ⟨w.heap.size, 0, none⟩) n n) (w.alloc (.cells (rings n) 66)) := by
  obtain ⟨i0, hi, hz0, hz1, hz2⟩ := info_parts Try.info66
  have := run_make (P := Try.prog) w 48 66 i0 _ Try.underlying48 hi hz0 .i64 .i64 n n (by omega) (by omega) (by rw [hz2]; omega) (by omega)
  rw [this, hz1]
  rfl
/-- What the memory's own block holds: ten cells; the sixth is the ring. -/
def memo (b n : Nat) : Array Value := #[.int .i64 0, .int .u64 0, .int .i64 0, .int .i32 0, .int .u32 0, .slice (some ⟨b, 0, none⟩) n n, .map none, .slice none 0 0, .int .i64 0, .int .i64 0]
set_option maxHeartbeats 400000 in
theorem new_any (n : Nat) (w : World) (h' : n ≤ 65536) :
    Calls Try.prog 12 #[.int .i64 n] w fun e w' => e = .returned (.pointer (some ⟨w.heap.size + 1, 0, none⟩)) ∧ w' = (w.alloc (.cells (rings n) 66)).alloc (.cells (memo w.heap.size n) 62) := by
  have hm := run_rings n h'
  go_enter Try.func12, Try.ntmps12
  go_wp2
  go_ret
  exact ⟨rfl, rfl⟩

/-- The place in the ring: the mask is the remainder. -/
theorem mask_eq (n : Nat) (t : Int) (h : 1 ≤ n) (h' : n ≤ 65536) (hp : n &&& (n - 1) = 0) :
    bits .and .u64 (IntKind.u64.wrap t) (IntKind.u64.wrap (IntKind.i64.wrap ((n : Int) - 1))) = (((t % (n : Int)).toNat : Nat) : Int) := by
  have hw : IntKind.i64.wrap ((n : Int) - 1) = ((n - 1 : Nat) : Int) := by rw [IntKind.wrap_i64]; omega
  have hv : IntKind.u64.wrap ((n - 1 : Nat) : Int) = ((n - 1 : Nat) : Int) := by rw [IntKind.wrap_u64]; omega
  rw [hw, hv, IntKind.wrap_u64]
  have hd := dvd_2_64 n h h' hp
  have h0 : 0 ≤ t % 18446744073709551616 := by omega
  obtain ⟨x, hx⟩ := Int.eq_ofNat_of_zero_le h0
  have hlt : x < 18446744073709551616 := by omega
  have hm := emod_wrap n t hd
  rw [hx] at hm ⊢
  rw [u64_and_nat x (n - 1) hlt (by omega), mask_mod n x h hp]
  have : ((x % n : Nat) : Int) = t % (n : Int) := by rw [← hm]; exact Int.natCast_emod x n
  rw [← this]
  rfl
theorem mod_lt (n : Nat) (t : Int) (h : 1 ≤ n) : (((t % (n : Int)).toNat : Nat) : Int) < (n : Int) := by
  have h0 := Int.emod_nonneg t (show (n : Int) ≠ 0 by omega)
  have h1 := Int.emod_lt_of_pos t (show (0 : Int) < n by omega)
  omega
set_option maxHeartbeats 400000 in
theorem ring_low (mb b n k : Nat) (t : Int) (w : World) (hk : (k : Int) < n) (h' : n ≤ 65536) (hc : w.cell? ⟨mb, 5, none⟩ = some (.slice (some ⟨b, 0, none⟩) n n))
    (he : bits .and .u64 (IntKind.u64.wrap t) (IntKind.u64.wrap (IntKind.i64.wrap ((n : Int) - 1))) = (k : Int)) :
    Calls Try.prog 19 #[.pointer (some ⟨mb, 0, none⟩), .int .i64 t] w fun e w' => e = .returned (.pointer (some ⟨b, k * 2, none⟩)) ∧ ∃ m, w' = w.drewN m := by
  go_enter Try.func19, Try.ntmps19
  go_wp2
  go_quiet (fail)
  go_wp2
  go_ret
  exact ⟨rfl, _, rfl⟩
/-- A ring: n buckets, n a power of two up to 65536; r is the remainder of t. -/
structure At (n r : Nat) (t : Int) : Prop where
  lo : 1 ≤ n
  hi : n ≤ 65536
  pow : n &&& (n - 1) = 0
  rem : t % (n : Int) = (r : Int)
theorem At.lt {n r : Nat} {t : Int} (h : At n r t) : r < n := by
  have h1 := Int.emod_lt_of_pos t (show (0 : Int) < n by have := h.lo; omega)
  have := h.rem
  omega
theorem ring_at (mb b n r : Nat) (t : Int) (w : World) (h : At n r t) (hc : w.cell? ⟨mb, 5, none⟩ = some (.slice (some ⟨b, 0, none⟩) n n)) :
    Calls Try.prog 19 #[.pointer (some ⟨mb, 0, none⟩), .int .i64 t] w fun e w' => e = .returned (.pointer (some ⟨b, r * 2, none⟩)) ∧ ∃ m, w' = w.drewN m := by
  have hlt := h.lt
  have hm := mask_eq n t h.lo h.hi h.pow
  rw [h.rem, Int.toNat_natCast] at hm
  exact ring_low mb b n r t w (by omega) h.hi hc hm
set_option maxHeartbeats 400000 in
/-- ZZringBucket: the bucket at the remainder's place. -/
theorem ring_any (mb b n r : Nat) (t : Int) (w : World) (h : At n r t) (hc : w.cell? ⟨mb, 5, none⟩ = some (.slice (some ⟨b, 0, none⟩) n n)) :
    Calls Try.prog 13 #[.pointer (some ⟨mb, 0, none⟩), .int .i64 t] w fun e w' => e = .returned (.pointer (some ⟨b, r * 2, none⟩)) ∧ ∃ m, w' = w.drewN m := by
  go_enter Try.func13, Try.ntmps13
  go_wp2_with (go_at_call 19; refine (ring_at mb b n r t _ h hc).mono ?_; rintro e w' ⟨rfl, m, rfl⟩)
  go_ret
  exact ⟨rfl, _, rfl⟩
set_option maxHeartbeats 400000 in
/-- ZZbucketAt. -/
theorem at_any (mb b n r : Nat) (w : World) (h : (r : Int) < n) (h' : n ≤ 65536) (hc : w.cell? ⟨mb, 5, none⟩ = some (.slice (some ⟨b, 0, none⟩) n n)) :
    Calls Try.prog 14 #[.pointer (some ⟨mb, 0, none⟩), .int .i64 r] w fun e w' => e = .returned (.pointer (some ⟨b, r * 2, none⟩)) ∧ w' = w := by
  go_enter Try.func14, Try.ntmps14
  go_wp2
  go_ret
  exact ⟨rfl, rfl⟩
/-- floorMod at a ring. -/
theorem floor_any (n r : Nat) (t : Int) (w : World) (h : At n r t) :
    Calls Try.prog 15 #[.int .i64 t, .int .i64 n] w fun e w' => e = .returned (.int .i64 r) ∧ w' = w := by
  have := floor_mod t n w (by have := h.lo; omega) (by have := h.hi; omega)
  rw [h.rem] at this
  exact this
/-- The world behind ZZnewReplayMemory. -/
def ringed (w : World) (n : Nat) : World := (w.alloc (.cells (rings n) 66)).alloc (.cells (memo w.heap.size n) 62)
theorem ringed_cell (w : World) (n m : Nat) : ((ringed w n).drewN m).cell? ⟨w.heap.size + 1, 5, none⟩ = some (.slice (some ⟨w.heap.size, 0, none⟩) n n) := by
  have : (ringed w n).cell? ⟨w.heap.size + 1, 5, none⟩ = some (.slice (some ⟨w.heap.size, 0, none⟩) n n) := by
    have e : w.heap.size + 1 = (w.alloc (.cells (rings n) 66)).heap.size := by simp
    unfold ringed
    rw [e]
    simp [memo]
  exact this
theorem ringed_grown (w : World) (n m : Nat) : Grown w ((ringed w n).drewN m) := ((Grown.refl w).alloc _ _).alloc _ _
/-- The whole ring in one word: the memory's pointer, the world. -/
theorem new_ringed (n : Nat) (w : World) (h' : n ≤ 65536) :
    Calls Try.prog 12 #[.int .i64 n] w fun e w' => e = .returned (.pointer (some ⟨w.heap.size + 1, 0, none⟩)) ∧ w' = (ringed w n).drewN 0 := new_any n w h'
theorem ring_ringed (n r m : Nat) (t : Int) (w : World) (h : At n r t) :
    Calls Try.prog 13 #[.pointer (some ⟨w.heap.size + 1, 0, none⟩), .int .i64 t] ((ringed w n).drewN m) fun e w' => e = .returned (.pointer (some ⟨w.heap.size, r * 2, none⟩)) ∧ ∃ m', w' = (ringed w n).drewN m' :=
  (ring_any _ _ n r t _ h (ringed_cell w n m)).mono fun e w' ⟨he, k, hw⟩ => ⟨he, m + k, by rw [hw]; simp⟩
theorem at_ringed (n r m : Nat) (t : Int) (w : World) (h : At n r t) :
    Calls Try.prog 14 #[.pointer (some ⟨w.heap.size + 1, 0, none⟩), .int .i64 r] ((ringed w n).drewN m) fun e w' => e = .returned (.pointer (some ⟨w.heap.size, r * 2, none⟩)) ∧ w' = (ringed w n).drewN m :=
  at_any _ _ n r _ (by have := h.lt; omega) h.hi (ringed_cell w n m)
/-- Two pointers to buckets: one place. -/
theorem eq_same (a : Addr) (w : World) : (binOp .eql 35 (.pointer (some a)) (.pointer (some a))).run Try.prog w = .ok (.bool true) w := by
  obtain ⟨i0, hi, _⟩ := info_parts Try.info66
  exact run_eql_ptr_same w a Try.underlying35 hi
theorem ringed_heap (w : World) (n m : Nat) : ((ringed w n).drewN m).heap[w.heap.size]? = some (.cells (rings n) 66 (0, 0)) := by
  show ((w.heap.push _).push _)[w.heap.size]? = _
  simp only [Array.getElem?_push, Array.size_push]
  rw [if_neg (by omega), if_pos trivial]
/-- Two buckets of one ring at two places are two. -/
theorem eq_other (w : World) (n m x y : Nat) (h : x ≠ y) : (binOp .eql 35 (.pointer (some ⟨w.heap.size, x * 2, none⟩)) (.pointer (some ⟨w.heap.size, y * 2, none⟩))).run Try.prog ((ringed w n).drewN m) = .ok (.bool false) ((ringed w n).drewN m) := by
  obtain ⟨i0, hi, _, hz, _⟩ := info_parts Try.info66
  exact run_eql_ptr_other _ Try.underlying35 hi (by rw [hz]; decide) (by intro e; injection e; omega) (ringed_heap w n m) (ringed_heap w n m)
end Go.Proofs.Qxb6614433a.Ring

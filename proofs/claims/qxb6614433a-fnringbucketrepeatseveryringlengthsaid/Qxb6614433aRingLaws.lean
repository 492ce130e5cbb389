/-
  The two ring laws' walks: each callee by its contract (Qxb6614433aRingWalks.lean).
-/
import Derived.Test.Qxb6614433aRingWalks
namespace Go.Proofs.Qxb6614433a.Ring
open Go.RowKit
set_option linter.unusedVariables false

/-- No power of two: true at once. -/
theorem repeats_no (a0 a1 a2 : Int) (w : World) (hp : ∀ w, Calls Try.prog 11 #[.int .i64 a0] w fun e w' => e = .returned (.bool false) ∧ w' = w) :
    Calls Try.prog 4 #[.int .i64 a0, .int .i64 a1, .int .i64 a2] w fun e w' => e = .returned (.bool true) ∧ Grown w w' := by
  go_enter Try.func4, Try.ntmps4
  go_wp2_with (go_at_call 11; refine (hp _).mono ?_; rintro e w' ⟨rfl, rfl⟩)
  go_ret
  exact ⟨rfl, Grown.refl _⟩
theorem repeats_yes (n r : Nat) (t k : Int) (w : World) (h : At n r t) (h2 : At n r (wrap64 (t + wrap64 (k * n)))) (hp : ∀ w, Calls Try.prog 11 #[.int .i64 n] w fun e w' => e = .returned (.bool true) ∧ w' = w) :
    Calls Try.prog 4 #[.int .i64 n, .int .i64 t, .int .i64 k] w fun e w' => e = .returned (.bool true) ∧ Grown w w' := by
  have hlt := h.lt
  have hhi := h.hi
  have hs := eq_same
  go_enter Try.func4, Try.ntmps4
  go_wp2_with fail
  refine (hp _).mono ?_
  rintro e w ⟨rfl, rfl⟩
  go_wp2_with fail
  refine (new_ringed n _ hhi).mono ?_
  rintro e w1 ⟨rfl, rfl⟩
  go_wp2_with fail
  refine (ring_ringed n r 0 t w h).mono ?_
  rintro e w1 ⟨rfl, m1, rfl⟩
  go_wp2_with fail
  refine (ring_ringed n r m1 _ w h2).mono ?_
  rintro e w1 ⟨rfl, m2, rfl⟩
  go_wp2_with fail
  refine (floor_any n r t _ h).mono ?_
  rintro e w1 ⟨rfl, rfl⟩
  go_wp2_with fail
  refine (at_ringed n r m2 t w h).mono ?_
  rintro e w1 ⟨rfl, rfl⟩
  go_wp2_with fail
  go_ret
  exact ⟨rfl, ringed_grown _ _ _⟩

theorem shared_no (a0 a1 a2 : Int) (w : World) (hp : ∀ w, Calls Try.prog 11 #[.int .i64 a0] w fun e w' => e = .returned (.bool false) ∧ w' = w) :
    Calls Try.prog 5 #[.int .i64 a0, .int .i64 a1, .int .i64 a2] w fun e w' => e = .returned (.bool true) ∧ Grown w w' := by
  go_enter Try.func5, Try.ntmps5
  go_wp2_with (go_at_call 11; refine (hp _).mono ?_; rintro e w' ⟨rfl, rfl⟩)
  go_ret
  exact ⟨rfl, Grown.refl _⟩
theorem shared_same (n r : Nat) (t u : Int) (w : World) (h : At n r t) (h2 : At n r u) (hz : ((wrap64 (u - t)).tmod (n : Int) == 0) = true) (hp : ∀ w, Calls Try.prog 11 #[.int .i64 n] w fun e w' => e = .returned (.bool true) ∧ w' = w) :
    Calls Try.prog 5 #[.int .i64 n, .int .i64 t, .int .i64 u] w fun e w' => e = .returned (.bool true) ∧ Grown w w' := by
  have hlt := h.lt
  have hhi := h.hi
  have hs := eq_same
  go_enter Try.func5, Try.ntmps5
  go_wp2_with fail
  refine (hp _).mono ?_
  rintro e w ⟨rfl, rfl⟩
  go_wp2_with fail
  refine (new_ringed n _ hhi).mono ?_
  rintro e w1 ⟨rfl, rfl⟩
  go_wp2_with fail
  refine (ring_ringed n r 0 t w h).mono ?_
  rintro e w1 ⟨rfl, m1, rfl⟩
  go_wp2_with fail
  refine (ring_ringed n r m1 _ w h2).mono ?_
  rintro e w1 ⟨rfl, m2, rfl⟩
  go_wp2_with fail
  refine (floor_any n r t _ h).mono ?_
  rintro e w1 ⟨rfl, rfl⟩
  go_wp2_with fail
  refine (at_ringed n r m2 t w h).mono ?_
  rintro e w1 ⟨rfl, rfl⟩
  go_wp2_with fail
  refine (floor_any n r u _ h2).mono ?_
  rintro e w1 ⟨rfl, rfl⟩
  go_wp2_with fail
  refine (at_ringed n r m2 u w h2).mono ?_
  rintro e w1 ⟨rfl, rfl⟩
  go_wp2_with fail
  go_ret
  exact ⟨rfl, ringed_grown _ _ _⟩
theorem shared_other (n r q : Nat) (t u : Int) (w : World) (h : At n r t) (h2 : At n q u) (hne : r ≠ q) (hz : ((wrap64 (u - t)).tmod (n : Int) == 0) = false) (hp : ∀ w, Calls Try.prog 11 #[.int .i64 n] w fun e w' => e = .returned (.bool true) ∧ w' = w) :
    Calls Try.prog 5 #[.int .i64 n, .int .i64 t, .int .i64 u] w fun e w' => e = .returned (.bool true) ∧ Grown w w' := by
  have hlt := h.lt
  have hhi := h.hi
  have hs := eq_same
  have ho := fun w n m => eq_other w n m r q hne
  go_enter Try.func5, Try.ntmps5
  go_wp2_with fail
  refine (hp _).mono ?_
  rintro e w ⟨rfl, rfl⟩
  go_wp2_with fail
  refine (new_ringed n _ hhi).mono ?_
  rintro e w1 ⟨rfl, rfl⟩
  go_wp2_with fail
  refine (ring_ringed n r 0 t w h).mono ?_
  rintro e w1 ⟨rfl, m1, rfl⟩
  go_wp2_with fail
  refine (ring_ringed n q m1 _ w h2).mono ?_
  rintro e w1 ⟨rfl, m2, rfl⟩
  go_wp2_with fail
  refine (floor_any n r t _ h).mono ?_
  rintro e w1 ⟨rfl, rfl⟩
  go_wp2_with fail
  refine (at_ringed n r m2 t w h).mono ?_
  rintro e w1 ⟨rfl, rfl⟩
  go_wp2_with fail
  refine (floor_any n q u _ h2).mono ?_
  rintro e w1 ⟨rfl, rfl⟩
  go_wp2_with fail
  refine (at_ringed n q m2 u w h2).mono ?_
  rintro e w1 ⟨rfl, rfl⟩
  go_wp2_with fail
  go_ret
  exact ⟨rfl, ringed_grown _ _ _⟩

/-! ### The plain facts: a ring's length is a power of two; the remainders -/
theorem and_i64 (n : Nat) (h : 1 ≤ n) (h' : n ≤ 65536) : bits .and .i64 (n : Int) ((n : Int) - 1) = ((n &&& (n - 1) : Nat) : Int) := by
  have hb : n &&& (n - 1) < 2 ^ 17 := Nat.and_lt_two_pow _ (by omega)
  have e : (n : Int) - 1 = ((n - 1 : Nat) : Int) := by omega
  rw [e]
  show IntKind.i64.wrap ((BitVec.ofInt 64 (n : Int) &&& BitVec.ofInt 64 ((n - 1 : Nat) : Int)).toNat : Int) = _
  rw [BitVec.toNat_and, ofInt_u64 n (by omega), ofInt_u64 (n - 1) (by omega), IntKind.wrap_i64]
  omega
/-- What powerOfTwoRing answers. -/
theorem pow_any (a : Int) : (∀ w, Calls Try.prog 11 #[.int .i64 a] w fun e w' => e = .returned (.bool false) ∧ w' = w) ∨
    ((∀ w, Calls Try.prog 11 #[.int .i64 a] w fun e w' => e = .returned (.bool true) ∧ w' = w) ∧ ∃ n : Nat, a = n ∧ 1 ≤ n ∧ n ≤ 65536 ∧ n &&& (n - 1) = 0) := by
  by_cases h1 : 1 ≤ a
  · by_cases h2 : a ≤ 65536
    · obtain ⟨n, rfl⟩ := Int.eq_ofNat_of_zero_le (show 0 ≤ a by omega)
      have hm := fun w => pow_mid n w h1 h2
      rw [and_i64 n (by omega) (by omega)] at hm
      by_cases hz : n &&& (n - 1) = 0
      · rw [hz] at hm
        exact .inr ⟨hm, n, rfl, by omega, by omega, hz⟩
      · have hf : ((((n &&& (n - 1)) : Nat) : Int) == 0) = false := by simpa using hz
        rw [hf] at hm
        exact .inl hm
    · exact .inl fun w => pow_high a w h1 h2
  · exact .inl fun w => pow_low a w h1
theorem at_of (n : Nat) (t : Int) (h : 1 ≤ n) (h' : n ≤ 65536) (hp : n &&& (n - 1) = 0) : ∃ r, At n r t := by
  obtain ⟨r, hr⟩ := Int.eq_ofNat_of_zero_le (Int.emod_nonneg t (show (n : Int) ≠ 0 by omega))
  exact ⟨r, h, h', hp, hr⟩
theorem at_shift {n r : Nat} {t : Int} (h : At n r t) (k : Int) : At n r (wrap64 (t + wrap64 (k * n))) := by
  refine ⟨h.lo, h.hi, h.pow, ?_⟩
  have hd := dvd_2_64 n h.lo h.hi h.pow
  have e : ∀ x, wrap64 x % (n : Int) = x % (n : Int) := fun x => by unfold wrap64; exact wrapI_emod n x hd
  rw [e, Int.add_emod, e, ← Int.add_emod, add_mul_emod]
  exact h.rem
theorem want_iff {n r q : Nat} {t u : Int} (h : At n r t) (h2 : At n q u) : ((wrap64 (u - t)).tmod (n : Int) == 0) = decide (r = q) := by
  have hd := dvd_2_64 n h.lo h.hi h.pow
  have e : wrap64 (u - t) % (n : Int) = (u - t) % (n : Int) := by unfold wrap64; exact wrapI_emod n _ hd
  rw [Bool.eq_iff_iff]
  simp only [beq_iff_eq, decide_eq_true_eq]
  rw [tmod_zero_iff, e, cong_iff, h.rem, h2.rem]
  omega
theorem repeats (a0 a1 a2 : Int) (w : World) : Calls Try.prog 4 #[.int .i64 a0, .int .i64 a1, .int .i64 a2] w fun e w' => e = .returned (.bool true) ∧ Grown w w' := by
  rcases pow_any a0 with hp | ⟨hp, n, rfl, h1, h2, h3⟩
  · exact repeats_no a0 a1 a2 w hp
  · obtain ⟨r, hr⟩ := at_of n a1 h1 h2 h3
    exact repeats_yes n r a1 a2 w hr (at_shift hr a2) hp
theorem shared (a0 a1 a2 : Int) (w : World) : Calls Try.prog 5 #[.int .i64 a0, .int .i64 a1, .int .i64 a2] w fun e w' => e = .returned (.bool true) ∧ Grown w w' := by
  rcases pow_any a0 with hp | ⟨hp, n, rfl, h1, h2, h3⟩
  · exact shared_no a0 a1 a2 w hp
  · obtain ⟨r, hr⟩ := at_of n a1 h1 h2 h3
    obtain ⟨q, hq⟩ := at_of n a2 h1 h2 h3
    by_cases e : r = q
    · subst e
      exact shared_same n r a1 a2 w hr hq (by rw [want_iff hr hq]; simp) hp
    · exact shared_other n r q a1 a2 w hr hq e (by rw [want_iff hr hq]; simpa using e) hp
end Go.Proofs.Qxb6614433a.Ring

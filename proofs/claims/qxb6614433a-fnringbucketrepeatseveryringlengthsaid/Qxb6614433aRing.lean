/-
  The plain law of a ring of a power-of-two length: masking by n-1 is the remainder by n. No Go in sight.
-/
namespace Go.Proofs.Qxb6614433a.Ring
theorem mask_mod (n x : Nat) (hn : 1 ≤ n) (hp : n &&& (n - 1) = 0) : x &&& (n - 1) = x % n := by
  obtain ⟨k, hk⟩ := (Nat.and_sub_one_eq_zero_iff_isPowerOfTwo (by omega)).1 hp
  rw [hk]
  exact Nat.and_two_pow_sub_one_eq_mod x k
theorem dvd_2_64 (n : Nat) (hn : 1 ≤ n) (hu : n ≤ 65536) (hp : n &&& (n - 1) = 0) : (n : Int) ∣ 18446744073709551616 := by
  obtain ⟨k, hk⟩ := (Nat.and_sub_one_eq_zero_iff_isPowerOfTwo (by omega)).1 hp
  have hk16 : k ≤ 16 := by
    apply Nat.le_of_not_lt
    intro h
    have := Nat.pow_le_pow_right (n := 2) (by omega) h
    omega
  have h := Nat.pow_dvd_pow 2 (show k ≤ 64 by omega)
  rw [← hk] at h
  exact Int.natCast_dvd_natCast.2 h
/-- The remainder of the wrapped number is the remainder of the number. -/
theorem emod_wrap (n x : Int) (h : n ∣ 18446744073709551616) : (x % 18446744073709551616) % n = x % n := Int.emod_emod_of_dvd x h
theorem wrapI_emod (n x : Int) (h : n ∣ 18446744073709551616) : ((x + 9223372036854775808) % 18446744073709551616 - 9223372036854775808) % n = x % n := by
  obtain ⟨c, hc⟩ := h
  have e : (x + 9223372036854775808) % 18446744073709551616 - 9223372036854775808 = x - n * (c * ((x + 9223372036854775808) / 18446744073709551616)) := by
    have := Int.emod_add_mul_ediv (x + 9223372036854775808) 18446744073709551616
    rw [← Int.mul_assoc, ← hc]
    omega
  rw [e, Int.sub_mul_emod_self_left]
theorem floor_eq (t n : Int) (hn : 0 < n) : (if t.tmod n < 0 then t.tmod n + n else t.tmod n) = t % n := by
  rw [Int.tmod_eq_emod]
  have h0 := Int.emod_nonneg t (show n ≠ 0 by omega)
  have h1 := Int.emod_lt_of_pos t hn
  by_cases h : 0 ≤ t ∨ n ∣ t
  · rw [if_pos h]; simp only [Int.natCast_zero]; rw [if_neg (by omega)]; omega
  · rw [if_neg h]; rw [if_pos (by omega)]; omega
theorem add_mul_emod (t k n : Int) : (t + k * n) % n = t % n := by simp
theorem tmod_zero_iff (a n : Int) : a.tmod n = 0 ↔ a % n = 0 :=
  ⟨fun h => Int.emod_eq_zero_of_dvd (Int.dvd_of_tmod_eq_zero h), fun h => Int.tmod_eq_zero_of_dvd (Int.dvd_of_emod_eq_zero h)⟩
theorem cong_iff (t u n : Int) : (u - t) % n = 0 ↔ t % n = u % n :=
  ⟨fun h => ((Int.emod_eq_emod_iff_emod_sub_eq_zero).2 h).symm, fun h => (Int.emod_eq_emod_iff_emod_sub_eq_zero).1 h.symm⟩
end Go.Proofs.Qxb6614433a.Ring

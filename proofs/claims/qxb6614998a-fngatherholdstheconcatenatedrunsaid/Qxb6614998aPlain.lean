/-
  The plain law of the gathered run: sums of lengths, the bytes one after another, the first block that brought bytes. No Go in sight.
-/
namespace Go.Proofs.Qxb6614998a.Gat
/-- The sum of the first i lengths. -/
def sum (L : Nat → Nat) : Nat → Nat
  | 0 => 0
  | i + 1 => sum L i + L i
theorem sum_mono (L : Nat → Nat) {i j : Nat} (h : i ≤ j) : sum L i ≤ sum L j := by
  induction j with
  | zero => have : i = 0 := by omega
            subst this; exact Nat.le_refl _
  | succ j ih =>
    by_cases e : i = j + 1
    · subst e; exact Nat.le_refl _
    · have := ih (by omega)
      simp only [sum]; omega
/-- The sum with 24 a block more. -/
def tot (L : Nat → Nat) : Nat → Nat
  | 0 => 0
  | i + 1 => tot L i + (24 + L i)
theorem sum_le_tot (L : Nat → Nat) (i : Nat) : sum L i + 24 * i = tot L i := by
  induction i with
  | zero => rfl
  | succ i ih => simp only [sum, tot]; omega
/-- The bytes of the first i blocks, one after another. -/
def cat (Z : Nat → List Int) (L : Nat → Nat) : Nat → List Int
  | 0 => []
  | i + 1 => cat Z L i ++ (Z i).take (L i)
theorem cat_length (Z : Nat → List Int) (L : Nat → Nat) (n : Nat) (h : ∀ r, r < n → L r ≤ (Z r).length) : (cat Z L n).length = sum L n := by
  induction n with
  | zero => rfl
  | succ n ih =>
    have := ih (fun r hr => h r (by omega))
    have := h n (by omega)
    simp only [cat, sum, List.length_append, List.length_take]; omega
theorem cat_get (Z : Nat → List Int) (L : Nat → Nat) (n j t : Nat) (h : ∀ r, r < n → L r ≤ (Z r).length) (hj : j < n) (ht : t < L j) : (cat Z L n)[sum L j + t]? = some ((Z j).getD t 0) := by
  induction n with
  | zero => omega
  | succ n ih =>
    have hl := cat_length Z L n (fun r hr => h r (by omega))
    have hn := h j hj
    by_cases e : j < n
    · have hm := sum_mono L (show j + 1 ≤ n by omega)
      simp only [sum] at hm
      rw [cat, List.getElem?_append_left (by omega)]
      exact ih (fun r hr => h r (by omega)) e
    · obtain rfl : j = n := by omega
      rw [cat, List.getElem?_append_right (by omega), hl]
      have e2 : sum L j + t - sum L j = t := by omega
      rw [e2, List.getElem?_take_of_lt ht, List.getD_eq_getElem?_getD, List.getElem?_eq_getElem (by omega)]
      simp
/-- The place of the first block that brought bytes, or of the last block. -/
def fst (L : Nat → Nat) : Nat → Nat
  | 0 => 0
  | i + 1 => if sum L i = 0 then i else fst L i
theorem fst_hit (L : Nat → Nat) (n j : Nat) (hj : j < n) (h0 : sum L j = 0) (h1 : 0 < L j) : fst L n = j := by
  induction n with
  | zero => omega
  | succ n ih =>
    by_cases e : j = n
    · subst e; simp [fst, h0]
    · have hm := sum_mono L (show j + 1 ≤ n by omega)
      simp only [sum] at hm
      rw [fst, if_neg (by omega)]
      exact ih (by omega)
theorem fst_none (L : Nat → Nat) (n : Nat) (h0 : sum L n = 0) : fst L (n + 1) = n := by simp [fst, h0]
theorem fst_le (L : Nat → Nat) (n : Nat) : fst L n ≤ n := by
  induction n with
  | zero => exact Nat.le_refl _
  | succ n ih => simp only [fst]; split <;> omega
end Go.Proofs.Qxb6614998a.Gat

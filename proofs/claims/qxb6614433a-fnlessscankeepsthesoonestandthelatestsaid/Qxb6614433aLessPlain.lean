/-
  The plain law of the two scans: no Go in sight.
-/
namespace Go.Proofs.Qxb6614433a.Less
/-- s is the first place among the first k that holds their least number. -/
structure IsMin (E : Nat → Int) (k s : Nat) : Prop where
  lt : s < k
  le : ∀ j, j < k → E s ≤ E j
  first : ∀ j, j < s → E s < E j
structure IsMax (E : Nat → Int) (k s : Nat) : Prop where
  lt : s < k
  le : ∀ j, j < k → E j ≤ E s
  first : ∀ j, j < s → E j < E s
theorem IsMin.one (E : Nat → Int) : IsMin E 1 0 := ⟨by omega, fun j hj => by obtain rfl : j = 0 := by omega
                                                                             exact Int.le_refl _, fun j hj => by omega⟩
theorem IsMax.one (E : Nat → Int) : IsMax E 1 0 := ⟨by omega, fun j hj => by obtain rfl : j = 0 := by omega
                                                                             exact Int.le_refl _, fun j hj => by omega⟩
theorem IsMin.yes {E : Nat → Int} {k s : Nat} (h : IsMin E k s) (hk : E k < E s) : IsMin E (k + 1) k := by
  refine ⟨by omega, fun j hj => ?_, fun j hj => ?_⟩
  · by_cases e : j = k
    · rw [e]; exact Int.le_refl _
    · have := h.le j (by omega); omega
  · have := h.le j hj; omega
theorem IsMin.no {E : Nat → Int} {k s : Nat} (h : IsMin E k s) (hk : ¬ E k < E s) : IsMin E (k + 1) s := by
  refine ⟨by have := h.lt; omega, fun j hj => ?_, h.first⟩
  by_cases e : j = k
  · rw [e]; omega
  · exact h.le j (by omega)
theorem IsMax.yes {E : Nat → Int} {k s : Nat} (h : IsMax E k s) (hk : E s < E k) : IsMax E (k + 1) k := by
  refine ⟨by omega, fun j hj => ?_, fun j hj => ?_⟩
  · by_cases e : j = k
    · rw [e]; exact Int.le_refl _
    · have := h.le j (by omega); omega
  · have := h.le j hj; omega
theorem IsMax.no {E : Nat → Int} {k s : Nat} (h : IsMax E k s) (hk : ¬ E s < E k) : IsMax E (k + 1) s := by
  refine ⟨by have := h.lt; omega, fun j hj => ?_, h.first⟩
  by_cases e : j = k
  · rw [e]; omega
  · exact h.le j (by omega)
theorem IsMin.unique {E : Nat → Int} {k s t : Nat} (h : IsMin E k s) (h' : IsMin E k t) : s = t := by
  rcases Nat.lt_trichotomy s t with e | e | e
  · have := h'.first s e; have := h.le t h'.lt; omega
  · exact e
  · have := h.first t e; have := h'.le s h.lt; omega
theorem IsMax.unique {E : Nat → Int} {k s t : Nat} (h : IsMax E k s) (h' : IsMax E k t) : s = t := by
  rcases Nat.lt_trichotomy s t with e | e | e
  · have := h'.first s e; have := h.le t h'.lt; omega
  · exact e
  · have := h.first t e; have := h'.le s h.lt; omega
/-- f is the first place among the first k that holds v, or -1 where none does. -/
def First (E : Nat → Int) (k : Nat) (v f : Int) : Prop :=
  (f = -1 ∧ ∀ j, j < k → E j ≠ v) ∨ ∃ s : Nat, f = s ∧ s < k ∧ E s = v ∧ ∀ j, j < s → E j ≠ v
theorem First.none (E : Nat → Int) (v : Int) : First E 0 v (-1) := .inl ⟨rfl, fun j hj => by omega⟩
theorem First.step {E : Nat → Int} {k : Nat} {v f : Int} (h : First E k v f) :
    (f < 0 ∧ (E k == v) = true ∧ First E (k + 1) v k) ∨ (f < 0 ∧ (E k == v) = false ∧ First E (k + 1) v f) ∨ (¬ f < 0 ∧ First E (k + 1) v f) := by
  rcases h with ⟨rfl, h⟩ | ⟨s, rfl, hs, he, hj⟩
  · by_cases e : E k = v
    · exact .inl ⟨by omega, by simpa using e, .inr ⟨k, rfl, by omega, e, h⟩⟩
    · refine .inr (.inl ⟨by omega, by simpa using e, .inl ⟨rfl, fun j hj => ?_⟩⟩)
      by_cases e' : j = k
      · rw [e']; exact e
      · exact h j (by omega)
  · exact .inr (.inr ⟨by omega, .inr ⟨s, rfl, by omega, he, hj⟩⟩)
theorem First.min {E : Nat → Int} {k s : Nat} {f : Int} (h : First E k (E s) f) (hm : IsMin E k s) : f = s := by
  rcases h with ⟨_, h⟩ | ⟨t, rfl, ht, he, hj⟩
  · exact absurd rfl (h s hm.lt)
  · rcases Nat.lt_trichotomy s t with e | e | e
    · exact absurd rfl (hj s e)
    · rw [e]
    · have := hm.first t e; omega
theorem First.max {E : Nat → Int} {k s : Nat} {f : Int} (h : First E k (E s) f) (hm : IsMax E k s) : f = s := by
  rcases h with ⟨_, h⟩ | ⟨t, rfl, ht, he, hj⟩
  · exact absurd rfl (h s hm.lt)
  · rcases Nat.lt_trichotomy s t with e | e | e
    · exact absurd rfl (hj s e)
    · rw [e]
    · have := hm.first t e; omega
theorem First.bounds {E : Nat → Int} {k : Nat} {v f : Int} (h : First E k v f) : -1 ≤ f ∧ f < k := by
  rcases h with ⟨rfl, h⟩ | ⟨t, rfl, ht, he, hj⟩ <;> omega
end Go.Proofs.Qxb6614433a.Less

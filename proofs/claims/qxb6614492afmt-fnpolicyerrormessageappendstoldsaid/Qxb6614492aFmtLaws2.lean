/-
  The two laws' walks.
-/
import Derived.Test.Qxb6614492aFmtLaws
namespace Go.Proofs.Qxb6614492aFmt.Pol
open Go.RowKit Go.Extern.Stop Go.Stop Go.Extern
set_option linter.unusedVariables false

/-! ### The plain laws -/
theorem pol_append (p h t : ByteArray) (line : Int) : pol p line (h ++ t) = pol p line h ++ t := by
  refine (bytes_ext ?_).symm
  simp [pol]
theorem pol_empty (p : ByteArray) (line : Int) : pol p line ⟨#[]⟩ = preB p line := by
  simp [pol, preB]
theorem pol_nested (p q m : ByteArray) (line l2 : Int) : pol p line (pol q l2 m) = preB p line ++ preB q l2 ++ m := by
  refine (bytes_ext ?_).symm
  simp [pol, preB]
theorem pol_size (p m : ByteArray) (line : Int) (hw : (Lit.int .i64 line).wf = true) : (pol p line m).size ≤ p.size + 24 + m.size := by
  have := pre_length p.data.toList line hw
  unfold pol
  rw [size_mk, List.length_append, size_list p, size_list m]
  omega
theorem preB_size (p : ByteArray) (line : Int) (hw : (Lit.int .i64 line).wf = true) : (preB p line).size ≤ p.size + 24 := by
  have := pre_length p.data.toList line hw
  unfold preB
  rw [size_mk, size_list p]
  exact this

set_option maxHeartbeats 400000 in
/-- Too long a string: true at once. -/
theorem append_long (p h t : ByteArray) (line : Int) (w : World) (h1 : p.size ≤ maxLen) (h2 : h.size ≤ maxLen) (h3 : t.size ≤ maxLen) (hlong : 65536 < p.size ∨ 65536 < h.size ∨ 65536 < t.size) :
    Calls Tryf.prog 4 #[.string p, .int .i64 line, .string h, .string t] w fun e w' => e = .returned (.bool true) ∧ Below w.heap.size w w' := by
  have HB := bytes4 p h t line w h1 h2 h3
  have H : Hid (Calls Tryf.prog 11 #[.string p, .int .i64 line, .string h, .string t] w fun e w' => (∃ b, e = .returned (.bool b)) ∧ w' = w) := HB
  clear HB
  unfold maxLen at h1 h2 h3
  by_cases c1 : 65536 < p.size
  · go_enter Tryf.func4, Tryf.ntmps4
    go_wp2_with fail
    refine H.out.mono ?_
    rintro e w ⟨⟨b, rfl⟩, rfl⟩
    cases b
    all_goals
      go_wp2_with fail
      go_ret
      exact ⟨rfl, Below.refl _ _⟩
  · by_cases c2 : 65536 < h.size
    · go_enter Tryf.func4, Tryf.ntmps4
      go_wp2_with fail
      refine H.out.mono ?_
      rintro e w ⟨⟨b, rfl⟩, rfl⟩
      cases b
      all_goals
        go_wp2_with fail
        go_ret
        exact ⟨rfl, Below.refl _ _⟩
    · have c3 : 65536 < t.size := by omega
      go_enter Tryf.func4, Tryf.ntmps4
      go_wp2_with fail
      refine H.out.mono ?_
      rintro e w ⟨⟨b, rfl⟩, rfl⟩
      cases b
      all_goals
        go_wp2_with fail
        go_ret
        exact ⟨rfl, Below.refl _ _⟩

set_option maxHeartbeats 400000 in
theorem append_short (F : Interp) (p h t : ByteArray) (line : Int) (w : World) (hF : F.told.answers w.tape) (hw : (Lit.int .i64 line).wf = true) (h1 : p.size ≤ 65536) (h2 : h.size ≤ 65536) (h3 : t.size ≤ 65536) :
    Calls Tryf.prog 4 #[.string p, .int .i64 line, .string h, .string t] w fun e w' => e = .returned (.bool true) ∧ Below w.heap.size w w' := by
  have HB := bytes4 p h t line w (by unfold maxLen; omega) (by unfold maxLen; omega) (by unfold maxLen; omega)
  have H : Hid (Calls Tryf.prog 11 #[.string p, .int .i64 line, .string h, .string t] w fun e w' => (∃ b, e = .returned (.bool b)) ∧ w' = w) := HB
  clear HB
  have hs := pol_size p h line hw
  obtain ⟨A, hA⟩ : ∃ A, A = pol p line h := ⟨_, rfl⟩
  obtain ⟨B, hB⟩ : ∃ B, B = preB p line := ⟨_, rfl⟩
  have T1 : Hid (∀ w, F.told.answers w.tape → Calls Tryf.prog 9 #[.string p, .int .i64 line, .string (h ++ t)] w fun e w' => e = .returned (.string (A ++ t)) ∧ Below w.heap.size w w') := fun w hF => by
    rw [hA, ← pol_append]
    exact text_any F p (h ++ t) line w hF (by omega) (by rw [size_join]; omega) hw
  have T2 : Hid (∀ w, F.told.answers w.tape → Calls Tryf.prog 9 #[.string p, .int .i64 line, .string h] w fun e w' => e = .returned (.string A) ∧ Below w.heap.size w w') := fun w hF => by
    rw [hA]
    exact text_any F p h line w hF (by omega) (by omega) hw
  have T3 : Hid (∀ w, F.told.answers w.tape → Calls Tryf.prog 9 #[.string p, .int .i64 line, .string ⟨#[]⟩] w fun e w' => e = .returned (.string B) ∧ Below w.heap.size w w') := fun w hF => by
    rw [hB, ← pol_empty]
    exact text_any F p ⟨#[]⟩ line w hF (by omega) (by decide) hw
  have T4 : Hid (∀ w, Calls Tryf.prog 10 #[.string p, .int .i64 line] w fun e w' => e = .returned (.string B) ∧ Below w.heap.size w w') := fun w => by
    rw [hB]
    exact pref_any p line w (by omega) hw
  have ha1 := fun wx => run_string_add_sum (P := Tryf.prog) wx h t (by omega)
  have ha2 := fun wx => run_string_add_sum (P := Tryf.prog) wx A t (by rw [hA]; omega)
  have HF : Hid (F.told.answers w.tape) := hF
  clear hA hB hs hF hw
  go_enter Tryf.func4, Tryf.ntmps4
  go_wp2_with fail
  refine H.out.mono ?_
  rintro e w ⟨⟨b, rfl⟩, rfl⟩
  clear H
  cases b
  · go_wp2_with fail
    go_ret
    exact ⟨rfl, Below.refl _ _⟩
  · go_wp2_with fail
    refine (T1.out _ HF.out).mono ?_
    rintro e w1 ⟨rfl, b1⟩
    go_wp2_with fail
    refine (T2.out _ (by rw [b1.tape]; exact HF.out)).mono ?_
    rintro e w2 ⟨rfl, b2⟩
    go_wp2_with fail
    refine (T3.out _ (by rw [b2.tape, b1.tape]; exact HF.out)).mono ?_
    rintro e w3 ⟨rfl, b3⟩
    go_wp2_with fail
    refine (T4.out _).mono ?_
    rintro e w4 ⟨rfl, b4⟩
    go_wp2_with fail
    go_ret
    exact ⟨rfl, b1.trans ((b2.mono b1.size).trans ((b3.mono (Nat.le_trans b1.size b2.size)).trans (b4.mono (Nat.le_trans b1.size (Nat.le_trans b2.size b3.size)))))⟩

set_option maxHeartbeats 400000 in
theorem nests_long (p q m : ByteArray) (line l2 : Int) (w : World) (h1 : p.size ≤ maxLen) (h2 : q.size ≤ maxLen) (h3 : m.size ≤ maxLen) (hlong : 65536 < p.size ∨ 65536 < q.size ∨ 65536 < m.size) :
    Calls Tryf.prog 3 #[.string p, .int .i64 line, .string q, .int .i64 l2, .string m] w fun e w' => e = .returned (.bool true) ∧ Below w.heap.size w w' := by
  have HB := bytes3 p q m line l2 w h1 h2 h3
  have H : Hid (Calls Tryf.prog 7 #[.string p, .int .i64 line, .string q, .int .i64 l2, .string m] w fun e w' => (∃ b, e = .returned (.bool b)) ∧ w' = w) := HB
  clear HB
  unfold maxLen at h1 h2 h3
  by_cases c1 : 65536 < p.size
  · go_enter Tryf.func3, Tryf.ntmps3
    go_wp2_with fail
    refine H.out.mono ?_
    rintro e w ⟨⟨b, rfl⟩, rfl⟩
    cases b
    all_goals
      go_wp2_with fail
      go_ret
      exact ⟨rfl, Below.refl _ _⟩
  · by_cases c2 : 65536 < q.size
    · go_enter Tryf.func3, Tryf.ntmps3
      go_wp2_with fail
      refine H.out.mono ?_
      rintro e w ⟨⟨b, rfl⟩, rfl⟩
      cases b
      all_goals
        go_wp2_with fail
        go_ret
        exact ⟨rfl, Below.refl _ _⟩
    · have c3 : 65536 < m.size := by omega
      go_enter Tryf.func3, Tryf.ntmps3
      go_wp2_with fail
      refine H.out.mono ?_
      rintro e w ⟨⟨b, rfl⟩, rfl⟩
      cases b
      all_goals
        go_wp2_with fail
        go_ret
        exact ⟨rfl, Below.refl _ _⟩

set_option maxHeartbeats 400000 in
theorem nests_short (F : Interp) (p q m : ByteArray) (line l2 : Int) (w : World) (hF : F.told.answers w.tape) (hw : (Lit.int .i64 line).wf = true) (hw2 : (Lit.int .i64 l2).wf = true) (h1 : p.size ≤ 65536) (h2 : q.size ≤ 65536) (h3 : m.size ≤ 65536) :
    Calls Tryf.prog 3 #[.string p, .int .i64 line, .string q, .int .i64 l2, .string m] w fun e w' => e = .returned (.bool true) ∧ Below w.heap.size w w' := by
  have HB := bytes3 p q m line l2 w (by unfold maxLen; omega) (by unfold maxLen; omega) (by unfold maxLen; omega)
  have H : Hid (Calls Tryf.prog 7 #[.string p, .int .i64 line, .string q, .int .i64 l2, .string m] w fun e w' => (∃ b, e = .returned (.bool b)) ∧ w' = w) := HB
  clear HB
  have hs := pol_size q m l2 hw2
  have hpB := preB_size p line hw
  have hqB := preB_size q l2 hw2
  obtain ⟨A, hA⟩ : ∃ A, A = preB p line := ⟨_, rfl⟩
  obtain ⟨B, hB⟩ : ∃ B, B = preB q l2 := ⟨_, rfl⟩
  obtain ⟨C, hC⟩ : ∃ C, C = pol q l2 m := ⟨_, rfl⟩
  have e0 : pol p line C = A ++ B ++ m := by rw [hA, hB, hC]; exact pol_nested p q m line l2
  have T1 : Hid (∀ w, F.told.answers w.tape → Calls Tryf.prog 8 #[.string p, .int .i64 line, .string q, .int .i64 l2, .string m] w fun e w' => e = .returned (.string (A ++ B ++ m)) ∧ Below w.heap.size w w') := fun w hF => by
    rw [← e0, hC]
    exact nested_any F p q m line l2 w hF (by omega) (by omega) (by omega) hw hw2 (by omega)
  have T2 : Hid (∀ w, F.told.answers w.tape → Calls Tryf.prog 9 #[.string q, .int .i64 l2, .string m] w fun e w' => e = .returned (.string C) ∧ Below w.heap.size w w') := fun w hF => by
    rw [hC]
    exact text_any F q m l2 w hF (by omega) (by omega) hw2
  have T3 : Hid (∀ w, F.told.answers w.tape → Calls Tryf.prog 9 #[.string p, .int .i64 line, .string C] w fun e w' => e = .returned (.string (A ++ B ++ m)) ∧ Below w.heap.size w w') := fun w hF => by
    rw [← e0]
    exact text_any F p C line w hF (by omega) (by rw [hC]; omega) hw
  have T4 : Hid (∀ w, Calls Tryf.prog 10 #[.string p, .int .i64 line] w fun e w' => e = .returned (.string A) ∧ Below w.heap.size w w') := fun w => by
    rw [hA]
    exact pref_any p line w (by omega) hw
  have T5 : Hid (∀ w, Calls Tryf.prog 10 #[.string q, .int .i64 l2] w fun e w' => e = .returned (.string B) ∧ Below w.heap.size w w') := fun w => by
    rw [hB]
    exact pref_any q l2 w (by omega) hw2
  have ha1 := fun wx => run_string_add_sum (P := Tryf.prog) wx A B (by rw [hA, hB]; omega)
  have ha2 := fun wx => run_string_add_sum (P := Tryf.prog) wx (A ++ B) m (by rw [size_join, hA, hB]; omega)
  have HF : Hid (F.told.answers w.tape) := hF
  clear hA hB hC e0 hs hpB hqB hF hw hw2
  go_enter Tryf.func3, Tryf.ntmps3
  go_wp2_with fail
  refine H.out.mono ?_
  rintro e w ⟨⟨b, rfl⟩, rfl⟩
  clear H
  cases b
  · go_wp2_with fail
    go_ret
    exact ⟨rfl, Below.refl _ _⟩
  · go_wp2_with fail
    refine (T1.out _ HF.out).mono ?_
    rintro e w1 ⟨rfl, b1⟩
    go_wp2_with fail
    refine (T2.out _ (by rw [b1.tape]; exact HF.out)).mono ?_
    rintro e w2 ⟨rfl, b2⟩
    go_wp2_with fail
    refine (T3.out _ (by rw [b2.tape, b1.tape]; exact HF.out)).mono ?_
    rintro e w3 ⟨rfl, b3⟩
    go_wp2_with fail
    refine (T4.out _).mono ?_
    rintro e w4 ⟨rfl, b4⟩
    go_wp2_with fail
    refine (T5.out _).mono ?_
    rintro e w5 ⟨rfl, b5⟩
    go_wp2_with fail
    go_ret
    have s12 := Nat.le_trans b1.size b2.size
    have s13 := Nat.le_trans s12 b3.size
    have s14 := Nat.le_trans s13 b4.size
    exact ⟨rfl, b1.trans ((b2.mono b1.size).trans ((b3.mono s12).trans ((b4.mono s13).trans (b5.mono s14))))⟩

/-! ### The laws, for every input -/
theorem append_any (F : Interp) (p h t : ByteArray) (line : Int) (w : World) (hF : F.told.answers w.tape) (hw : (Lit.int .i64 line).wf = true) (h1 : p.size ≤ maxLen) (h2 : h.size ≤ maxLen) (h3 : t.size ≤ maxLen) :
    Calls Tryf.prog 4 #[.string p, .int .i64 line, .string h, .string t] w fun e w' => e = .returned (.bool true) ∧ Below w.heap.size w w' := by
  by_cases hl : 65536 < p.size ∨ 65536 < h.size ∨ 65536 < t.size
  · exact append_long p h t line w h1 h2 h3 hl
  · exact append_short F p h t line w hF hw (by omega) (by omega) (by omega)
theorem nests_any (F : Interp) (p q m : ByteArray) (line l2 : Int) (w : World) (hF : F.told.answers w.tape) (hw : (Lit.int .i64 line).wf = true) (hw2 : (Lit.int .i64 l2).wf = true) (h1 : p.size ≤ maxLen) (h2 : q.size ≤ maxLen) (h3 : m.size ≤ maxLen) :
    Calls Tryf.prog 3 #[.string p, .int .i64 line, .string q, .int .i64 l2, .string m] w fun e w' => e = .returned (.bool true) ∧ Below w.heap.size w w' := by
  by_cases hl : 65536 < p.size ∨ 65536 < q.size ∨ 65536 < m.size
  · exact nests_long p q m line l2 w h1 h2 h3 hl
  · exact nests_short F p q m line l2 w hF hw hw2 (by omega) (by omega) (by omega)
end Go.Proofs.Qxb6614492aFmt.Pol

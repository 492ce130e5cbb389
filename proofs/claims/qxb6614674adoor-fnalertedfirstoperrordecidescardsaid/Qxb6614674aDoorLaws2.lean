/-
  The two laws' walks.
-/
import Derived.Test.Qxb6614674aDoorLaws
namespace Go.Proofs.Qxb6614674aDoor.Al
open Go.RowKit Go.Extern.Stop Go.Stop Go.Extern
set_option linter.unusedVariables false

set_option maxHeartbeats 400000 in
theorem decides_long (t a b : ByteArray) (w : World) (h1 : t.size ≤ maxLen) (h2 : a.size ≤ maxLen) (h3 : b.size ≤ maxLen) (hlong : 65536 < t.size ∨ 65536 < a.size ∨ 65536 < b.size) :
    Calls Tryd.prog 3 #[.string t, .string a, .string b] w fun e w' => e = .returned (.bool true) ∧ Below w.heap.size w w' := by
  have HB := bytes3 t a b w h1 h2 h3
  have H : Hid (Calls Tryd.prog 5 #[.string t, .string a, .string b] w fun e w' => (∃ b, e = .returned (.bool b)) ∧ w' = w) := HB
  clear HB
  unfold maxLen at h1 h2 h3
  by_cases c1 : 65536 < t.size
  · go_enter Tryd.func3, Tryd.ntmps3
    go_wp2_with fail
    refine H.out.mono ?_
    rintro e w ⟨⟨b, rfl⟩, rfl⟩
    cases b
    all_goals
      go_wp2_with fail
      go_ret
      exact ⟨rfl, Below.refl _ _⟩
  · by_cases c2 : 65536 < a.size
    · go_enter Tryd.func3, Tryd.ntmps3
      go_wp2_with fail
      refine H.out.mono ?_
      rintro e w ⟨⟨b, rfl⟩, rfl⟩
      cases b
      all_goals
        go_wp2_with fail
        go_ret
        exact ⟨rfl, Below.refl _ _⟩
    · have c3 : 65536 < b.size := by omega
      go_enter Tryd.func3, Tryd.ntmps3
      go_wp2_with fail
      refine H.out.mono ?_
      rintro e w ⟨⟨b, rfl⟩, rfl⟩
      cases b
      all_goals
        go_wp2_with fail
        go_ret
        exact ⟨rfl, Below.refl _ _⟩

set_option maxHeartbeats 400000 in
theorem decides_short (t a b : ByteArray) (w : World) (hg : Laid w) (h1 : t.size ≤ 65536) (h2 : a.size ≤ 65536) (h3 : b.size ≤ 65536) :
    Calls Tryd.prog 3 #[.string t, .string a, .string b] w fun e w' => e = .returned (.bool true) ∧ Below w.heap.size w w' := by
  have HB := bytes3 t a b w (by unfold maxLen; omega) (by unfold maxLen; omega) (by unfold maxLen; omega)
  have H : Hid (Calls Tryd.prog 5 #[.string t, .string a, .string b] w fun e w' => (∃ b, e = .returned (.bool b)) ∧ w' = w) := HB
  clear HB
  obtain ⟨r, hr⟩ : ∃ r, r = isRemote a := ⟨_, rfl⟩
  have he : (a.toList == [114, 101, 109, 111, 116, 101, 32, 101, 114, 114, 111, 114]) = r := by rw [hr]; rfl
  have T1 : Hid (∀ w, Laid w → Calls Tryd.prog 6 #[.string a] w fun e w' => e = .returned (.bool r) ∧ Below w.heap.size w w') := fun w hg => by rw [hr]; exact op_any a w hg
  have T2 : Hid (∀ w, Laid w → Calls Tryd.prog 7 #[.string t, .string a] w fun e w' => e = .returned (.bool r) ∧ Below w.heap.size w w') := fun w hg => by rw [hr]; exact textop_any t a w hg
  have T3 : Hid (∀ w, Laid w → Calls Tryd.prog 8 #[.string a, .string b] w fun e w' => e = .returned (.bool r) ∧ Below w.heap.size w w') := fun w hg => by rw [hr]; exact ops_any a b w hg
  clear hr
  have HG : Hid (Laid w) := hg
  clear hg
  cases r
  all_goals
    go_enter Tryd.func3, Tryd.ntmps3
    go_wp2_with fail
    refine H.out.mono ?_
    rintro e w ⟨⟨b, rfl⟩, rfl⟩
    clear H
    cases b
    · go_wp2_with fail
      go_ret
      exact ⟨rfl, Below.refl _ _⟩
    · go_wp2_with fail
      refine (T1.out _ HG.out).mono ?_
      rintro e w1 ⟨rfl, b1⟩
      have g1 : Hid (Laid w1) := HG.out.below b1 HG.out.pos
      go_wp2_with fail
      refine (T2.out _ g1.out).mono ?_
      rintro e w2 ⟨rfl, b2⟩
      have g2 : Hid (Laid w2) := g1.out.below b2 g1.out.pos
      go_wp2_with fail
      refine (T3.out _ g2.out).mono ?_
      rintro e w3 ⟨rfl, b3⟩
      go_wp2_with fail
      go_ret
      exact ⟨rfl, b1.trans ((b2.mono b1.size).trans (b3.mono (Nat.le_trans b1.size b2.size)))⟩

theorem remote_is : isRemote ⟨#[114, 101, 109, 111, 116, 101, 32, 101, 114, 114, 111, 114]⟩ = true := by decide +kernel
set_option maxHeartbeats 400000 in
theorem refuses_any (t : ByteArray) (w : World) (hg : Laid w) (h1 : t.size ≤ maxLen) :
    Calls Tryd.prog 4 #[.string t] w fun e w' => e = .returned (.bool true) ∧ Below w.heap.size w w' := by
  have HB := bytes1 t w h1
  have H : Hid (Calls Tryd.prog 9 #[.string t] w fun e w' => (∃ b, e = .returned (.bool b)) ∧ w' = w) := HB
  clear HB
  unfold maxLen at h1
  by_cases c1 : 65536 < t.size
  · go_enter Tryd.func4, Tryd.ntmps4
    go_wp2_with fail
    refine H.out.mono ?_
    rintro e w ⟨⟨b, rfl⟩, rfl⟩
    cases b
    all_goals
      go_wp2_with fail
      go_ret
      exact ⟨rfl, Below.refl _ _⟩
  · have HG : Hid (Laid w) := hg
    have T3 : Hid (∀ w, Laid w → Calls Tryd.prog 7 #[.string t, .string ⟨#[114, 101, 109, 111, 116, 101, 32, 101, 114, 114, 111, 114]⟩] w fun e w' => e = .returned (.bool true) ∧ Below w.heap.size w w') := fun w hg => by
      have h := textop_any t ⟨#[114, 101, 109, 111, 116, 101, 32, 101, 114, 114, 111, 114]⟩ w hg
      rw [remote_is] at h
      exact h
    clear hg
    go_enter Tryd.func4, Tryd.ntmps4
    go_wp2_with fail
    refine H.out.mono ?_
    rintro e w ⟨⟨b, rfl⟩, rfl⟩
    clear H
    cases b
    · go_wp2_with fail
      go_ret
      exact ⟨rfl, Below.refl _ _⟩
    · go_wp2_with fail
      refine (nil_any _).mono ?_
      rintro e w1 ⟨rfl, b1⟩
      have g1 : Hid (Laid w1) := HG.out.below b1 HG.out.pos
      go_wp2_with fail
      refine (text_any t _ g1.out).mono ?_
      rintro e w2 ⟨rfl, b2⟩
      have g2 : Hid (Laid w2) := g1.out.below b2 g1.out.pos
      go_wp2_with fail
      refine (T3.out _ g2.out).mono ?_
      rintro e w3 ⟨rfl, b3⟩
      go_wp2_with fail
      go_ret
      exact ⟨rfl, b1.trans ((b2.mono b1.size).trans (b3.mono (Nat.le_trans b1.size b2.size)))⟩
theorem decides_any (t a b : ByteArray) (w : World) (hg : Laid w) (h1 : t.size ≤ maxLen) (h2 : a.size ≤ maxLen) (h3 : b.size ≤ maxLen) :
    Calls Tryd.prog 3 #[.string t, .string a, .string b] w fun e w' => e = .returned (.bool true) ∧ Below w.heap.size w w' := by
  by_cases hl : 65536 < t.size ∨ 65536 < a.size ∨ 65536 < b.size
  · exact decides_long t a b w h1 h2 h3 hl
  · exact decides_short t a b w hg (by omega) (by omega) (by omega)
end Go.Proofs.Qxb6614674aDoor.Al

/-
  The callees of the two laws, by their contracts; the two laws' walks.
-/
import Derived.Test.Qxb6614492aFmtErr3
import Derived.Test.Qxb6614492aFmtItoa
namespace Go.Proofs.Qxb6614492aFmt.Pol
open Go.RowKit Go.Extern.Stop Go.Stop Go.Extern
set_option linter.unusedVariables false

/-- What stands ahead of the problem, as a Go string. -/
def preB (p : ByteArray) (line : Int) : ByteArray := ⟨(pre p.data.toList line).toArray⟩
theorem pre_zero (p : ByteArray) : p ++ ⟨#[58, 32]⟩ = preB p 0 := by
  refine bytes_ext ?_
  simp [pre]
theorem pre_line (p : ByteArray) (line : Int) (h : ¬ line = 0) : p ++ ⟨#[58]⟩ ++ ⟨(Lib.itoa line).toArray⟩ ++ ⟨#[58, 32]⟩ = preB p line := by
  refine bytes_ext ?_
  simp [pre, h]
theorem size_mk (l : List UInt8) : (⟨l.toArray⟩ : ByteArray).size = l.length := by simp [ByteArray.size]

set_option maxHeartbeats 400000 in
theorem pref_any (p : ByteArray) (line : Int) (w : World) (hp : p.size ≤ 1048576) (hw : (Lit.int .i64 line).wf = true) :
    Calls Tryf.prog 10 #[.string p, .int .i64 line] w fun e w' => e = .returned (.string (preB p line)) ∧ Below w.heap.size w w' := by
  by_cases hl : line = 0
  · subst hl
    have ha1 := fun wx => run_string_add_sum (P := Tryf.prog) wx p ⟨#[58, 32]⟩ (by have : (⟨#[58, 32]⟩ : ByteArray).size = 2 := rfl
                                                                                   omega)
    go_enter Tryf.func10, Tryf.ntmps10
    go_wp2
    go_ret
    exact ⟨ret_str (pre_zero p), Below.refl _ _⟩
  · have hl' : (line == 0) = false := by simpa using hl
    have hi : Hid ((⟨(Lib.itoa line).toArray⟩ : ByteArray).size ≤ 21) := by
      show _ ≤ _
      rw [size_mk]; exact FmtText.itoa_length_le hw
    have hit := itoa_any line w hw hl
    have e := pre_line p line hl
    obtain ⟨t, ht⟩ : ∃ t : ByteArray, t = ⟨(Lib.itoa line).toArray⟩ := ⟨_, rfl⟩
    rw [← ht] at hi hit e
    have HI : Hid (Calls Tryf.prog 23 #[.int .i64 line] w fun e w' => e = .returned (.string t) ∧ Below w.heap.size w w') := hit
    have HE : Hid (p ++ ⟨#[58]⟩ ++ t ++ ⟨#[58, 32]⟩ = preB p line) := e
    have h1 : (⟨#[58]⟩ : ByteArray).size = 1 := rfl
    have h2 : (⟨#[58, 32]⟩ : ByteArray).size = 2 := rfl
    have ha1 := fun wx => run_string_add_sum (P := Tryf.prog) wx p ⟨#[58]⟩ (by omega)
    have ha2 := fun wx => run_string_add_sum (P := Tryf.prog) wx (p ++ ⟨#[58]⟩) t (by have := hi.out; rw [size_join]; omega)
    have ha3 := fun wx => run_string_add_sum (P := Tryf.prog) wx (p ++ ⟨#[58]⟩ ++ t) ⟨#[58, 32]⟩ (by have := hi.out; rw [size_join, size_join]; omega)
    clear hit e ht h1 h2 hl
    go_enter Tryf.func10, Tryf.ntmps10
    go_wp2_with (go_at_call 23; refine HI.out.mono ?_; rintro e w' ⟨rfl, hb⟩)
    go_ret
    exact ⟨ret_str HE.out, hb⟩

set_option maxHeartbeats 400000 in
/-- ZZpolicyErrorText. -/
theorem text_any (F : Interp) (p m : ByteArray) (line : Int) (w : World) (hF : F.told.answers w.tape) (hp : p.size ≤ 1048576) (hm : m.size ≤ 1048576) (hw : (Lit.int .i64 line).wf = true) :
    Calls Tryf.prog 9 #[.string p, .int .i64 line, .string m] w fun e w' => e = .returned (.string (pol p line m)) ∧ Below w.heap.size w w' := by
  go_enter Tryf.func9, Tryf.ntmps9
  go_wp2_with fail
  refine (new_any m _).mono ?_
  rintro e w1 ⟨rfl, rfl⟩
  go_wp2_with fail
  refine (error_plain F (w.heap.size + 1) w.heap.size p m line _ (by exact hF) hp hm hw ?hb ?c0 ?c1 ?c2 ?c3).mono ?_
  case hb => simp; omega
  case c0 => go_simp
  case c1 => go_simp
  case c2 => go_simp
  case c3 => go_simp
  rintro e w2 ⟨rfl, hb⟩
  go_wp2
  go_ret
  exact ⟨rfl, (((Below.refl w.heap.size w).alloc (Nat.le_refl _) _).alloc (by simp) _).trans (hb.mono (by simp; omega))⟩

set_option maxHeartbeats 400000 in
/-- ZZnestedPolicyErrorText. -/
theorem nested_any (F : Interp) (p q m : ByteArray) (line l2 : Int) (w : World) (hF : F.told.answers w.tape) (hp : p.size ≤ 1048576) (hq : q.size ≤ 1048576) (hm : m.size ≤ 1048576) (hw : (Lit.int .i64 line).wf = true) (hw2 : (Lit.int .i64 l2).wf = true) (ht : (pol q l2 m).size ≤ 16777216) :
    Calls Tryf.prog 8 #[.string p, .int .i64 line, .string q, .int .i64 l2, .string m] w fun e w' => e = .returned (.string (pol p line (pol q l2 m))) ∧ Below w.heap.size w w' := by
  go_enter Tryf.func8, Tryf.ntmps8
  go_wp2_with fail
  refine (new_any m _).mono ?_
  rintro e w1 ⟨rfl, rfl⟩
  go_wp2_with fail
  refine (error_nested F (w.heap.size + 1 + 1) (w.heap.size + 1) p (pol q l2 m) line _ (by exact hF) hp ht hw ?hb ?c0 ?c1 ?c2 ?hin).mono ?_
  case hb => simp
  case c0 => go_simp
  case c1 => go_simp
  case c2 => go_simp
  case hin =>
    intro W hB
    have hF2 : F.told.answers W.tape := by rw [hB.tape]; exact hF
    have hs := hB.size
    simp at hs
    refine error_plain F (w.heap.size + 1) w.heap.size q m l2 W hF2 hq hm hw2 (by omega) ?c0 ?c1 ?c2 ?c3
    case c0 => refine (hB.cell (p := ⟨w.heap.size + 1, 0, none⟩) (by simp)).trans ?_; go_simp
    case c1 => refine (hB.cell (p := ⟨w.heap.size + 1, 1, none⟩) (by simp)).trans ?_; go_simp
    case c2 => refine (hB.cell (p := ⟨w.heap.size + 1, 2, none⟩) (by simp)).trans ?_; go_simp
    case c3 => refine (hB.cell (p := ⟨w.heap.size, 0, none⟩) (by simp; omega)).trans ?_; go_simp
  rintro e w2 ⟨rfl, hb⟩
  go_wp2
  go_ret
  exact ⟨rfl, ((((Below.refl w.heap.size w).alloc (Nat.le_refl _) _).alloc (by simp) _).alloc (by simp; omega) _).trans (hb.mono (by simp; omega))⟩

set_option maxHeartbeats 400000 in
theorem bytes4 (p h t : ByteArray) (line : Int) (w : World) (h1 : p.size ≤ maxLen) (h2 : h.size ≤ maxLen) (h3 : t.size ≤ maxLen) :
    Calls Tryf.prog 11 #[.string p, .int .i64 line, .string h, .string t] w fun e w' => (∃ b, e = .returned (.bool b)) ∧ w' = w := by
  unfold maxLen at h1 h2 h3
  go_enter Tryf.func11, Tryf.ntmps11
  go_wp2
  all_goals (go_ret; exact ⟨⟨_, rfl⟩, rfl⟩)
set_option maxHeartbeats 400000 in
theorem bytes3 (p q m : ByteArray) (line l2 : Int) (w : World) (h1 : p.size ≤ maxLen) (h2 : q.size ≤ maxLen) (h3 : m.size ≤ maxLen) :
    Calls Tryf.prog 7 #[.string p, .int .i64 line, .string q, .int .i64 l2, .string m] w fun e w' => (∃ b, e = .returned (.bool b)) ∧ w' = w := by
  unfold maxLen at h1 h2 h3
  go_enter Tryf.func7, Tryf.ntmps7
  go_wp2
  all_goals (go_ret; exact ⟨⟨_, rfl⟩, rfl⟩)
end Go.Proofs.Qxb6614492aFmt.Pol

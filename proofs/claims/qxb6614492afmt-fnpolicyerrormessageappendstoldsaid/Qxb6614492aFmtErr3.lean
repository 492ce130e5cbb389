/-
  PolicyError's Error, its text told: a plain problem, and a problem that is another PolicyError.
-/
import Derived.Test.Qxb6614492aFmtErr2
import Derived.Stop.Texts
import Derived.Stop.Told
import Derived.Stop.FmtTextKit
import Derived.Lib.ItoaLen
namespace Go.Proofs.Qxb6614492aFmt.Pol
open Go.RowKit Go.Extern.Stop Go.Stop Go.Extern
set_option linter.unusedVariables false

attribute [local go_sem] call28 guard_ok fmt0 fmt0r act9 op9 act3 op3 act56 isError56 act40 isError40 str40
theorem name40_bytes : Tryf.t40.str.toByteArray.data.toList = name40 := by decide +kernel
/-- What fmt is asked where the problem's own Error has given t. -/
def readingN (p : List UInt8) (line : Int) (t : List UInt8) : List (List UInt8) :=
  [[37, 115, 58, 37, 100, 58, 32, 37, 118], shape9, FmtStop.pack p, shape3, digits 8 (line % 18446744073709551616).toNat, 19 :: 0 :: FmtStop.pack name40, t]
set_option maxHeartbeats 400000 in
theorem sprintf_nested (F : Interp) (vb qb : Nat) (p t : ByteArray) (line : Int) (W : World) (R : Value → World → Prop) (hF : F.answers W.tape) (hvb : vb < W.heap.size)
    (c0 : W.cell? ⟨vb, 0, none⟩ = some (.iface 9 (.string p))) (c1 : W.cell? ⟨vb, 1, none⟩ = some (.iface 3 (.int .i64 line))) (c2 : W.cell? ⟨vb, 2, none⟩ = some (.iface 40 (.pointer (some ⟨qb, 0, none⟩))))
    (hin : Calls Tryf.prog 22 #[.pointer (some ⟨qb, 0, none⟩)] W fun e w' => e = .returned (.string t) ∧ Below W.heap.size W w')
    (h : ∀ w', Below W.heap.size W w' → R (.string (FmtStop.textOf (F "fmt.Sprintf" (readingN p.data.toList line t.data.toList) 0))) w'.drew) :
    Rows Tryf.prog FmtCalls.turnsRow (FmtCalls.save 0 0 (.slice (some ⟨vb, 0, none⟩) 3 3) ⟨#[37, 115, 58, 37, 100, 58, 32, 37, 118]⟩ [] [(0, 115, false), (1, 100, false), (2, 118, false)]) W R := by
  have HI : Hid (Calls Tryf.prog 22 #[.pointer (some ⟨qb, 0, none⟩)] W fun e w' => e = .returned (.string t) ∧ Below W.heap.size W w') := hin
  clear hin
  apply rows_call nextTurns
  case hr =>
    go_simp
    exact ⟨⟨rfl, rfl, rfl⟩, rfl⟩
  case hi => exact invokeError40 _ _
  case hc =>
    refine HI.out.mono fun e w' ⟨he, hb⟩ => ?_
    subst he
    have hF' := answers_open (show F.answers w'.tape by rw [hb.tape]; exact hF)
    have d0 := (hb.cell (p := ⟨vb, 0, none⟩) hvb).trans c0
    have d1 := (hb.cell (p := ⟨vb, 1, none⟩) hvb).trans c1
    have d2 := (hb.cell (p := ⟨vb, 2, none⟩) hvb).trans c2
    apply rows_value nextReturned
    case hr =>
      go_simp
      exact ⟨rfl, rfl⟩
    case h =>
      rw [name40_bytes]
      exact h w' hb

/-! ### The texts -/
/-- What stands ahead of the problem. -/
def pre (p : List UInt8) (line : Int) : List UInt8 := if line = 0 then p ++ [58, 32] else p ++ (58 :: (Lib.itoa line ++ [58, 32]))
/-- The whole text. -/
def pol (p : ByteArray) (line : Int) (m : ByteArray) : ByteArray := ⟨(pre p.data.toList line ++ m.data.toList).toArray⟩
theorem pre_length (p : List UInt8) (line : Int) (hw : (Lit.int .i64 line).wf = true) : (pre p line).length ≤ p.length + 24 := by
  have := FmtText.itoa_length_le hw
  unfold pre
  split <;> simp <;> omega
theorem parse0 : (FmtText.parse [37, 115, 58, 37, 100, 58, 32, 37, 118]).map FmtText.glue = some [.verb {} 115, .lit [58], .verb {} 100, .lit [58, 32], .verb {} 118] := by rfl
theorem text_plain (p m : List UInt8) (line : Int) (hp : p.length < 2 ^ 64) (hw : (Lit.int .i64 line).wf = true) : FmtText.text "fmt.Sprintf" (reading p line m) = some (p ++ (58 :: (Lib.itoa line ++ [58, 32])) ++ m) := by
  have h1 := FmtText.operand_str_at (sh := shape9) rfl rfl p hp
  have h2 := FmtText.operand_int_at (sh := shape3) (k := .i64) rfl rfl line hw
  have h3 := FmtText.operand_plain_at (sh := plain56) rfl (FmtText.unpack_pack _ (by decide)) m
  rw [reading, FmtText.text_sprintf_glued parse0 (FmtText.operands_cons h1 (FmtText.operands_cons h2 (FmtText.operands_cons h3 FmtText.operands_nil)))]
  simp [FmtText.render, FmtText.printArg_s_str, FmtText.printArg_d _ _ hw, FmtText.printArg_v_said]
theorem text_nested (p m : List UInt8) (line : Int) (hp : p.length < 2 ^ 64) (hw : (Lit.int .i64 line).wf = true) : FmtText.text "fmt.Sprintf" (readingN p line m) = some (p ++ (58 :: (Lib.itoa line ++ [58, 32])) ++ m) := by
  have h1 := FmtText.operand_str_at (sh := shape9) rfl rfl p hp
  have h2 := FmtText.operand_int_at (sh := shape3) (k := .i64) rfl rfl line hw
  have h3 := FmtText.operand_error_at (ty := 19 :: 0 :: FmtStop.pack name40) rfl (FmtText.unpack_pack _ (by decide)) m
  rw [readingN, FmtText.text_sprintf_glued parse0 (FmtText.operands_cons h1 (FmtText.operands_cons h2 (FmtText.operands_cons h3 FmtText.operands_nil)))]
  simp [FmtText.render, FmtText.printArg_s_str, FmtText.printArg_d _ _ hw, FmtText.printArg_v_said]
theorem bytes_ext {a : ByteArray} {l : List UInt8} (h : a.data.toList = l) : a = ⟨l.toArray⟩ := by
  cases a; simp at h; subst h; simp
theorem size_list (a : ByteArray) : a.size = a.data.toList.length := rfl
theorem told_pol (F : Interp) (r : List (List UInt8)) (p m : ByteArray) (line : Int) (hp : p.size ≤ 1048576) (hm : m.size ≤ 16777216) (hw : (Lit.int .i64 line).wf = true) (hl : (line == 0) = false)
    (ht : FmtText.text "fmt.Sprintf" r = some (p.data.toList ++ (58 :: (Lib.itoa line ++ [58, 32])) ++ m.data.toList)) : FmtStop.textOf (F.told "fmt.Sprintf" r 0) = pol p line m := by
  have hi := FmtText.itoa_length_le hw
  rw [size_list] at hp hm
  have e := told_string F ht (by simp only [List.length_append, List.length_cons, List.length_nil]; omega)
  have hz : ¬ line = 0 := by simpa using hl
  refine (bytes_ext ?_).trans (b := ⟨(p.data.toList ++ (58 :: (Lib.itoa line ++ [58, 32])) ++ m.data.toList).toArray⟩) ?_
  · rw [Kit.textOf_list, e]
  · unfold pol pre; rw [if_neg hz]
theorem pol_zero (p m : ByteArray) : p ++ ⟨#[58, 32]⟩ ++ m = pol p 0 m := by
  refine (bytes_ext ?_)
  simp [pre]

/-! ### Error's contracts -/
theorem error_plain (F : Interp) (pb eb : Nat) (p m : ByteArray) (line : Int) (w : World) (hF : F.told.answers w.tape) (hp : p.size ≤ 1048576) (hm : m.size ≤ 1048576) (hw : (Lit.int .i64 line).wf = true) (hb : eb < w.heap.size)
    (c0 : w.cell? ⟨pb, 0, none⟩ = some (.string p)) (c1 : w.cell? ⟨pb, 1, none⟩ = some (.int .i64 line)) (c2 : w.cell? ⟨pb, 2, none⟩ = some (.iface 56 (.pointer (some ⟨eb, 0, none⟩)))) (c3 : w.cell? ⟨eb, 0, none⟩ = some (.string m)) :
    Calls Tryf.prog 22 #[.pointer (some ⟨pb, 0, none⟩)] w fun e w' => e = .returned (.string (pol p line m)) ∧ Below w.heap.size w w' := by
  by_cases hl : line = 0
  · subst hl
    refine (error_zero_plain pb eb p m w hp hm c0 c1 c2 c3).mono fun e w' ⟨he, k, hw'⟩ => ?_
    rw [he, hw', pol_zero]
    exact ⟨rfl, rfl, rfl, rfl, Nat.le_refl _, fun _ _ => rfl⟩
  · have hl' : (line == 0) = false := by simpa using hl
    refine (error_line pb 56 p line (.pointer (some ⟨eb, 0, none⟩)) w (fun v w2 => v = .string (pol p line m) ∧ Below w.heap.size w w2) hl' c0 c1 c2 (fun R hR => ?_)).mono fun e w' ⟨v, he, hv, hB⟩ => ?_
    · have hcell : ∀ (o : Obj) (a : Nat) (i : Nat), a < w.heap.size → ((w.alloc o).drew).cell? ⟨a, i, none⟩ = w.cell? ⟨a, i, none⟩ := fun o a i h => (((Below.refl w.heap.size w).alloc (Nat.le_refl _) o).drew).cell (p := ⟨a, i, none⟩) h
      refine sprintf_plain F.told w.heap.size eb p m line _ R hF ?_ ?_ ?_ ((hcell _ eb 0 hb).trans c3) (hR _ _ ⟨?_, ?_⟩)
      · simp
      · simp
      · simp
      · rw [told_pol F _ p m line hp (by omega) hw hl' (text_plain _ _ line (by rw [size_list] at hp; omega) hw)]
      · exact (((Below.refl w.heap.size w).alloc (Nat.le_refl _) _).drew).drew
    · rw [he, hv]; exact ⟨rfl, hB⟩
theorem error_nested (F : Interp) (pb qb : Nat) (p t : ByteArray) (line : Int) (w : World) (hF : F.told.answers w.tape) (hp : p.size ≤ 1048576) (ht : t.size ≤ 16777216) (hw : (Lit.int .i64 line).wf = true) (hpb : pb < w.heap.size)
    (c0 : w.cell? ⟨pb, 0, none⟩ = some (.string p)) (c1 : w.cell? ⟨pb, 1, none⟩ = some (.int .i64 line)) (c2 : w.cell? ⟨pb, 2, none⟩ = some (.iface 40 (.pointer (some ⟨qb, 0, none⟩))))
    (hin : ∀ W, Below w.heap.size w W → Calls Tryf.prog 22 #[.pointer (some ⟨qb, 0, none⟩)] W fun e w' => e = .returned (.string t) ∧ Below W.heap.size W w') :
    Calls Tryf.prog 22 #[.pointer (some ⟨pb, 0, none⟩)] w fun e w' => e = .returned (.string (pol p line t)) ∧ Below w.heap.size w w' := by
  by_cases hl : line = 0
  · subst hl
    refine (error_zero_nested pb qb p t w hp ht hpb c0 c1 c2 ?_).mono fun e w' ⟨he, hB⟩ => ?_
    · exact (hin _ (Below.refl _ _).drew).mono fun e w' ⟨he, hb⟩ => ⟨he, (Below.refl _ w).drew.trans hb⟩
    · rw [he, pol_zero]; exact ⟨rfl, hB⟩
  · have hl' : (line == 0) = false := by simpa using hl
    refine (error_line pb 40 p line (.pointer (some ⟨qb, 0, none⟩)) w (fun v w2 => v = .string (pol p line t) ∧ Below w.heap.size w w2) hl' c0 c1 c2 (fun R hR => ?_)).mono fun e w' ⟨v, he, hv, hB⟩ => ?_
    · have hB0 : ∀ o, Below w.heap.size w ((w.alloc o).drew) := fun o => ((Below.refl w.heap.size w).alloc (Nat.le_refl _) o).drew
      refine sprintf_nested F.told w.heap.size qb p t line _ R hF ?_ ?_ ?_ ?_ (hin _ (hB0 _)) (fun w' hw' => hR _ _ ⟨?_, ?_⟩)
      · simp
      · simp
      · simp
      · simp
      · rw [told_pol F _ p t line hp ht hw hl' (text_nested _ _ line (by rw [size_list] at hp; omega) hw)]
      · exact ((hB0 _).trans (hw'.mono (by simp))).drew
    · rw [he, hv]; exact ⟨rfl, hB⟩
end Go.Proofs.Qxb6614492aFmt.Pol

import Derived.Test.Qxb6614492aFmtFacts
import Derived.Deep.RegionHeld3
import Derived.Deep.QuietTactic
import Derived.BigQuiet
namespace Go.Proofs.Qxb6614492aFmt.Pol
open Go.RowKit Go.Extern.Stop Go.Stop Go.Extern
set_option linter.unusedVariables false
attribute [local go_sem] call28 guard_ok fmt0 fmt0r act9 op9 act3 op3 act56 isError56 act40 isError40

/-- What fmt is asked at a PolicyError over an error of errors.New's make. -/
def reading (p : List UInt8) (line : Int) (msg : List UInt8) : List (List UInt8) :=
  [[37, 115, 58, 37, 100, 58, 32, 37, 118], shape9, FmtStop.pack p, shape3, digits 8 (line % 18446744073709551616).toNat, plain56, msg]

set_option maxHeartbeats 400000 in
theorem new_any (s : ByteArray) (w : World) : Calls Tryf.prog 21 #[.string s] w fun e w' => e = .returned (.iface 56 (.pointer (some ⟨w.heap.size, 0, none⟩))) ∧ w' = w.alloc (.cells #[.string s] 58) := by
  go_enter Tryf.func21, Tryf.ntmps21
  go_wp2
  go_ret
  exact ⟨rfl, rfl⟩
set_option maxHeartbeats 400000 in
theorem plain_any (s : ByteArray) (a : Nat) (w : World) (hc : w.cell? ⟨a, 0, none⟩ = some (.string s)) : Calls Tryf.prog 114 #[.pointer (some ⟨a, 0, none⟩)] w fun e w' => e = .returned (.string s) ∧ w' = w := by
  go_enter Tryf.func114, Tryf.ntmps114
  go_wp2
  go_ret
  exact ⟨rfl, rfl⟩

set_option maxHeartbeats 400000 in
/-- fmt.Sprintf at our format, the third operand an error of errors.New's make. -/
theorem sprintf_plain (F : Interp) (vb eb : Nat) (p m : ByteArray) (line : Int) (W : World) (R : Value → World → Prop) (hF : F.answers W.tape)
    (c0 : W.cell? ⟨vb, 0, none⟩ = some (.iface 9 (.string p))) (c1 : W.cell? ⟨vb, 1, none⟩ = some (.iface 3 (.int .i64 line))) (c2 : W.cell? ⟨vb, 2, none⟩ = some (.iface 56 (.pointer (some ⟨eb, 0, none⟩)))) (c3 : W.cell? ⟨eb, 0, none⟩ = some (.string m))
    (h : R (.string (FmtStop.textOf (F "fmt.Sprintf" (reading p.data.toList line m.data.toList) 0))) W.drew) :
    Rows Tryf.prog FmtCalls.turnsRow (FmtCalls.save 0 0 (.slice (some ⟨vb, 0, none⟩) 3 3) ⟨#[37, 115, 58, 37, 100, 58, 32, 37, 118]⟩ [] [(0, 115, false), (1, 100, false), (2, 118, false)]) W R := by
  have hF' := answers_open hF
  have hop := fun name => opPlain56 name ⟨eb, 0, none⟩ m W c3
  apply rows_value nextTurns
  case hr =>
    go_simp
    exact ⟨rfl, rfl⟩
  case h => exact h

set_option maxHeartbeats 1000000 in
/-- Error at a line: whatever fmt.Sprintf gives. -/
theorem error_line (pb T : Nat) (p : ByteArray) (line : Int) (x : Value) (w : World) (Good : Value → World → Prop) (hl : (line == 0) = false)
    (c0 : w.cell? ⟨pb, 0, none⟩ = some (.string p)) (c1 : w.cell? ⟨pb, 1, none⟩ = some (.int .i64 line)) (c2 : w.cell? ⟨pb, 2, none⟩ = some (.iface T x))
    (hR : ∀ R : Value → World → Prop, (∀ v w2, Good v w2 → R v w2) → Rows Tryf.prog FmtCalls.turnsRow (FmtCalls.save 0 0 (.slice (some ⟨w.heap.size, 0, none⟩) 3 3) ⟨#[37, 115, 58, 37, 100, 58, 32, 37, 118]⟩ [] [(0, 115, false), (1, 100, false), (2, 118, false)]) (w.alloc (.cells #[.iface 9 (.string p), .iface 3 (.int .i64 line), .iface T x] 20)).drew R) :
    Calls Tryf.prog 22 #[.pointer (some ⟨pb, 0, none⟩)] w fun e w' => ∃ v, e = .returned v ∧ Good v w' := by
  go_enter Tryf.func22, Tryf.ntmps22
  go_wp2
  go_region_with (refine hR _ (fun v w2 hg => ?_))
  all_goals (go_wp2; go_ret; exact ⟨_, rfl, hg⟩)

end Go.Proofs.Qxb6614492aFmt.Pol

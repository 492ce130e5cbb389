/-
  Rows.FnGatherHoldsTheConcatenatedRunSaid, proved. The frame after the guide's own template for a slice (ours: a slice of slices of bytes); the walk is in Qxb6614998aLaw.lean.
-/
import Derived.Test.Qxb6614998aRows
import Derived.WalkKit
import Derived.ProofKit
import Derived.OpenShut
import Derived.ShutString
import Derived.ChangeOld
import Derived.Below
import Derived.Deep.Matrix
import Derived.Test.Qxb6614998aLaw
namespace Go.Proofs.Qxb6614998a.fnGatherHoldsTheConcatenatedRun
open Go.ChangeShapes Go.WideShapes Go.ChangeAt Go.RowKit
open Go.ChangeMaps (open_string shut_string)
set_option linter.unusedVariables false

theorem own : ownKnob Try.prog.godebug = none := by kernel_rfl
theorem laidOut : laidOutB Try.prog = true := by kernel_rfl

theorem cell_lt {w : World} {a : Addr} {v : Value} (h : w.cell? a = some v) : a.block < w.heap.size := by
  rcases Nat.lt_or_ge a.block w.heap.size with h' | h'
  · exact h'
  · obtain ⟨b, o, s⟩ := a
    cases s <;> simp [World.cell?, Array.getElem?_eq_none h'] at h
theorem add_block (a : Addr) (i : Nat) : (a.add i).block = a.block := by unfold Addr.add; split <;> rfl

theorem walk (b0 : Int) (a : Option Addr) (n cap : Nat) (A : Nat → Option Addr) (L C : Nat → Nat) (Z : Nat → List Int) (w : World) (hB : Gat.Blocks w a n A L C Z) :
    Calls Try.prog 3 #[.int .i64 b0, .slice a n cap] w fun e w' => e = .returned (.bool true) ∧ Below w.heap.size w w' :=
  Gat.law_any w b0 a n cap A L C Z hB

/-! ### THE ROW's STEP: WRITTEN OUT: LEAVE IT -/
set_option maxRecDepth 100000 in
theorem lifted (os : Os) (started : os.Started) (H : Type) (enc : TypeId × Value → H) :
    ReturnsInHanded {} Try.checked os 3 .any (Rows.fnGatherHoldsTheConcatenatedRunSpec.pre6 enc Try.prog Try.f3 Rows.fnGatherHoldsTheConcatenatedRunRow.domain false) (Rows.fnGatherHoldsTheConcatenatedRunSpec.post enc Try.prog Try.f3 false true false false) := by
  refine returnsInHanded_of_change (C := Try.checked) own started (by kernel_rfl) Try.func3
    (ChangeSpec.witness6 (enc := enc) (C := Try.checked) false ⟨#[], #[.int .i64 0, .slice none 0 0], []⟩ 8 (by kernel_rfl) (by kernel_rfl) (by kernel_rfl) (by kernel_rfl)) ?_
  intro W base args ds gs before hval0 hW hcnd _
  have hval : ∀ (j : Nat) t v, Try.f3.params[j]? = some t → args[j]? = some v → Value.okWide Try.prog W .any base t v := hval0
  have hW' := hW
  obtain ⟨p, q, hA0, hV, rfl, hfz, hnd⟩ := hW
  have hA : DataW.TrodAll enc Try.prog W 0 (fun _ => true) true Try.f3.params.toList args.toList ds p := hA0
  rw [Try.params3] at hA hval
  obtain ⟨v0, vs0, d0, ds0, p0, q0, hargs, rfl, rfl, h0, r0⟩ := trodAll_cons hA
  obtain ⟨v1, vs1, d1, ds1, p1, q1, rfl, rfl, rfl, h1, r1⟩ := trodAll_cons r0
  obtain ⟨rfl, rfl, rfl⟩ := trodAll_nil r1
  obtain rfl : args = #[v0, v1] := by cases args; simp_all
  obtain ⟨rfl, rfl⟩ := trodVars_none hV
  obtain ⟨a0, rfl, rfl, rfl, w0⟩ := open_int Try.underlying3 (hval 0 3 v0 rfl rfl) h0
  obtain ⟨a1, len1, cap1, rfl⟩ := okWide_slice Try.underlying22 (hval 1 22 v1 rfl rfl)
  have k1 := h1
  have lt1 : ∀ x ∈ p1, x.block < W.heap.size := by obtain ⟨m, hm⟩ := k1; exact DataW.trod_lt m _ _ _ hm
  obtain ⟨A, L, C, Z, hB⟩ : ∃ A L C Z, Gat.Blocks W a1 len1 A L C Z := by
    obtain ⟨fuel, hf⟩ := h1
    rcases Go.Deep.open_int_rows Try.underlying22 Try.underlying24 Try.underlying5 (by kernel_rfl) (by kernel_rfl) hf with ⟨hcs, _⟩ | ⟨x, l, c, A, L, C, Z, hcs, _, hl, hm, _, hx⟩
    · simp [Value.cells] at hcs
      obtain ⟨rfl, rfl, rfl⟩ := hcs
      exact ⟨fun _ => none, fun _ => 0, fun _ => 0, fun _ => [], ⟨Nat.zero_le _, fun r hr => by omega, fun r hr => by omega, fun r hr => by omega⟩⟩
    · simp [Value.cells] at hcs
      obtain ⟨rfl, rfl, rfl⟩ := hcs
      refine ⟨A, L, C, Z, ⟨Nat.le_trans hl hm, fun r hr => ?_, fun r hr => ?_, fun r hr => ?_⟩⟩
      · have := hx r (by omega)
        exact Nat.le_trans this.2.1 this.2.2.1
      · obtain ⟨b, off, spot⟩ := x
        have hspot : spot = none := by simpa [Addr.add] using World.cell?_spot (hx 0 (by omega)).1
        subst hspot
        have h := (hx r (by omega)).1
        have hlt := cell_lt h
        rw [add_plain] at h hlt
        exact ⟨b, off, rfl, hlt, h⟩
      · obtain ⟨_, hLC, _, hZ, _, hnone, hsome⟩ := hx r (by omega)
        refine ⟨by omega, ?_⟩
        cases hA : A r with
        | none => exact .inl ⟨rfl, by have := hnone hA; omega, hnone hA⟩
        | some a' =>
          have hc := (hsome a' hA).2
          refine .inr ⟨a', rfl, fun h0 => ?_, fun c hcl => hc c (by omega)⟩
          have := cell_lt (hc 0 (by omega))
          rwa [add_block] at this
  clear hA0 hval0
  refine (walk a0 a1 len1 cap1 A L C Z W hB).mono fun e W' ⟨he, bel⟩ => ?_
  subst he
  exact ⟨_, rfl, _, _, _, [], _, [], hW', trodAll_mk1 (shut_bool Try.underlying4 _), (trodAll_cons_mk (shut_int Try.underlying3 w0) (trodAll_cons_mk (Below.trod laidOut (by kernel_rfl) (of_decide_eq_true (by kernel_rfl)) k1 bel lt1) trodAll_mk0)), rfl, bel.frame _, fun h => by cases h⟩

theorem over : Rows.fnGatherHoldsTheConcatenatedRunRow.holds Try.pinned (OpenSpec.ofChange Rows.fnGatherHoldsTheConcatenatedRunSpec) :=
  OpenClaim.holds_of_wide 3 Try.f3 rfl rfl rfl rfl rfl rfl rfl ⟨rfl, rfl, rfl, rfl, rfl⟩ rfl rfl rfl rfl rfl (by kernel_rfl) Try.func3 (by kernel_rfl)
    (of_decide_eq_true (by kernel_rfl)) (by unfold Func.isWrapper; first | (rw [if_pos (by decide +kernel)]; kernel_rfl) | (rw [if_neg (by decide +kernel)]; exact ⟨rfl, rfl⟩))
    (fun os started H enc _ => lifted os started H enc)

/-- ████ THE STATEMENT ████ -/
theorem proved : Rows.FnGatherHoldsTheConcatenatedRunSaid := over
end Go.Proofs.Qxb6614998a.fnGatherHoldsTheConcatenatedRun
namespace Go.Proofs.Qxb6614998a
/-- The given statement, by its own name. -/
theorem fnGatherHoldsTheConcatenatedRun_proved : Rows.FnGatherHoldsTheConcatenatedRunSaid := fnGatherHoldsTheConcatenatedRun.proved
end Go.Proofs.Qxb6614998a

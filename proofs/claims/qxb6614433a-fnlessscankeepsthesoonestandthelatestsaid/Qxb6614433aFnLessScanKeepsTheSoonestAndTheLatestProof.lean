/-
  Rows.FnLessScanKeepsTheSoonestAndTheLatestSaid, proved. The frame after the guide's own template for a slice (ours: a slice of pairs); the walk is in Qxb6614433aLessLaw.lean.
-/
import Derived.Test.Qxb6614433aRows
import Derived.WalkKit
import Derived.ProofKit
import Derived.OpenShut
import Derived.ShutString
import Derived.ChangeOld
import Derived.Below
import Derived.Deep.SlicePairs
import Derived.Test.Qxb6614433aLessLaw
namespace Go.Proofs.Qxb6614433a.fnLessScanKeepsTheSoonestAndTheLatest
open Go.ChangeShapes Go.WideShapes Go.ChangeAt Go.RowKit
open Go.ChangeMaps (open_string shut_string)
set_option linter.unusedVariables false

theorem own : ownKnob Try.prog.godebug = none := by kernel_rfl
theorem laidOut : laidOutB Try.prog = true := by kernel_rfl

/-- What the walk is told of the slice of entries that came in: it is nil; or entry i's two cells hold the numbers K i and E i. -/
def IsPairs (w : World) (a : Option Addr) (len : Nat) (K E : Nat → Int) : Prop :=
  (a = none ∧ len = 0) ∨ ∃ x, a = some x ∧ ∀ i, i < len → w.cell? (x.add (i * 2)) = some (.int .u64 (K i)) ∧ w.cell? (x.add (i * 2 + 1)) = some (.int .i64 (E i))

theorem walk (a0 : Option Addr) (len0 cap0 : Nat) (K E : Nat → Int) (w : World) (w0 : IsPairs w a0 len0 K E) :
    Calls Try.prog 3 #[.slice a0 len0 cap0] w fun e w' => e = .returned (.bool true) ∧ Below w.heap.size w w' := by
  by_cases h0 : len0 = 0
  · subst h0
    exact Less.law_none a0 cap0 w
  · by_cases h1 : 65536 < len0
    · exact Less.law_much a0 len0 cap0 w h1
    · rcases w0 with ⟨_, h⟩ | ⟨x, rfl, hc⟩
      · exact absurd h h0
      · obtain ⟨b, off, rfl, hlt⟩ : ∃ b off, x = ⟨b, off, none⟩ ∧ b < w.heap.size := by
          have hc0 := (hc 0 (by omega)).1
          obtain ⟨b, off, spot⟩ := x
          have hspot : spot = none := by simpa [Addr.add] using World.cell?_spot hc0
          subst hspot
          refine ⟨b, off, rfl, ?_⟩
          rw [add_plain] at hc0
          rcases Nat.lt_or_ge b w.heap.size with h | h
          · exact h
          · simp [World.cell?, Array.getElem?_eq_none h] at hc0
        refine Less.law_some b off len0 cap0 K E w (by omega) (by omega) hlt (fun i hi => ?_) (fun i hi => ?_)
        · rw [← add_plain]; exact (hc i hi).1
        · rw [Nat.add_assoc, ← add_plain]; exact (hc i hi).2

/-! ### THE ROW's STEP: WRITTEN OUT: LEAVE IT -/
set_option maxRecDepth 100000 in
theorem lifted (os : Os) (started : os.Started) (H : Type) (enc : TypeId × Value → H) :
    ReturnsInHanded {} Try.checked os 3 .any (Rows.fnLessScanKeepsTheSoonestAndTheLatestSpec.pre6 enc Try.prog Try.f3 Rows.fnLessScanKeepsTheSoonestAndTheLatestRow.domain false) (Rows.fnLessScanKeepsTheSoonestAndTheLatestSpec.post enc Try.prog Try.f3 false true false false) := by
  refine returnsInHanded_of_change (C := Try.checked) own started (by kernel_rfl) Try.func3
    (ChangeSpec.witness6 (enc := enc) (C := Try.checked) false ⟨#[], #[.slice none 0 0], []⟩ 8 (by kernel_rfl) (by kernel_rfl) (by kernel_rfl) (by kernel_rfl)) ?_
  intro W base args ds gs before hval0 hW hcnd _
  have hval : ∀ (j : Nat) t v, Try.f3.params[j]? = some t → args[j]? = some v → Value.okWide Try.prog W .any base t v := hval0
  have hW' := hW
  obtain ⟨p, q, hA0, hV, rfl, hfz, hnd⟩ := hW
  have hA : DataW.TrodAll enc Try.prog W 0 (fun _ => true) true Try.f3.params.toList args.toList ds p := hA0
  rw [Try.params3] at hA hval
  obtain ⟨v0, vs0, d0, ds0, p0, q0, hargs, rfl, rfl, h0, r0⟩ := trodAll_cons hA
  obtain ⟨rfl, rfl, rfl⟩ := trodAll_nil r0
  obtain rfl : args = #[v0] := by cases args; simp_all
  obtain ⟨rfl, rfl⟩ := trodVars_none hV
  obtain ⟨a0, len0, cap0, rfl⟩ := okWide_slice Try.underlying22 (hval 0 22 v0 rfl rfl)
  have k0 := h0
  have lt0 : ∀ x ∈ p0, x.block < W.heap.size := by obtain ⟨m, hm⟩ := k0; exact DataW.trod_lt m _ _ _ hm
  obtain ⟨K, E, w0⟩ : ∃ K E, IsPairs W a0 len0 K E := by
    obtain ⟨fuel, hf⟩ := h0
    rcases Go.Deep.open_slice_pairs Try.underlying22 Try.underlying29 (by kernel_rfl) rfl rfl (by kernel_rfl) (by kernel_rfl) hf with ⟨hcs, _⟩ | ⟨x, l, c, m, n, V0, V1, D0, D1, P0, P1, hcs, _, hl, hm, hmm, _, hx⟩
    · simp [Value.cells] at hcs
      obtain ⟨rfl, rfl, rfl⟩ := hcs
      exact ⟨fun _ => 0, fun _ => 0, .inl ⟨rfl, rfl⟩⟩
    · simp [Value.cells] at hcs
      obtain ⟨rfl, rfl, rfl⟩ := hcs
      refine ⟨fun i => intOf (V0 i), fun i => intOf (V1 i), .inr ⟨_, rfl, fun i hi => ?_⟩⟩
      obtain ⟨c0, c1, t0, t1⟩ := hx i (by simp at hmm; omega)
      obtain ⟨a, e0, _, _⟩ := DataW.trod_int Try.underlying27 t0
      obtain ⟨b, e1, _, _⟩ := DataW.trod_int Try.underlying2 t1
      simp at e0 e1
      refine ⟨c0.trans ?_, c1.trans ?_⟩
      · show some (V0 i) = some (.int .u64 (intOf (V0 i)))
        rw [e0]; rfl
      · show some (V1 i) = some (.int .i64 (intOf (V1 i)))
        rw [e1]; rfl
  clear hA0 hval0
  refine (walk a0 len0 cap0 K E W w0).mono fun e W' ⟨he, bel⟩ => ?_
  subst he
  exact ⟨_, rfl, _, _, _, [], _, [], hW', trodAll_mk1 (shut_bool Try.underlying4 _), (trodAll_cons_mk (Below.trod laidOut (by kernel_rfl) (of_decide_eq_true (by kernel_rfl)) k0 bel lt0) trodAll_mk0), rfl, bel.frame _, fun h => by cases h⟩

theorem over : Rows.fnLessScanKeepsTheSoonestAndTheLatestRow.holds Try.pinned (OpenSpec.ofChange Rows.fnLessScanKeepsTheSoonestAndTheLatestSpec) :=
  OpenClaim.holds_of_wide 3 Try.f3 rfl rfl rfl rfl rfl rfl rfl ⟨rfl, rfl, rfl, rfl, rfl⟩ rfl rfl rfl rfl rfl (by kernel_rfl) Try.func3 (by kernel_rfl)
    (of_decide_eq_true (by kernel_rfl)) (by unfold Func.isWrapper; first | (rw [if_pos (by decide +kernel)]; kernel_rfl) | (rw [if_neg (by decide +kernel)]; exact ⟨rfl, rfl⟩))
    (fun os started H enc _ => lifted os started H enc)

/-- ████ THE STATEMENT ████ -/
theorem proved : Rows.FnLessScanKeepsTheSoonestAndTheLatestSaid := over
end Go.Proofs.Qxb6614433a.fnLessScanKeepsTheSoonestAndTheLatest
namespace Go.Proofs.Qxb6614433a
/-- The given statement, by its own name. -/
theorem fnLessScanKeepsTheSoonestAndTheLatest_proved : Rows.FnLessScanKeepsTheSoonestAndTheLatestSaid := fnLessScanKeepsTheSoonestAndTheLatest.proved
end Go.Proofs.Qxb6614433a

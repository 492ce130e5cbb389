/-
  Rows.FnAlertedRefusesAllButAnAlertCardSaid, proved: the tied card of zzlaws_internal_api_b1.FnAlertedRefusesAllButAnAlert. The frame after the guide's worked Toyas texts.
-/
import Derived.Test.Qxb6614674aDoorCards
import Derived.Test.Qxb6614674aDoorTie
import Derived.Test.Qxb6614674aDoorLaws2
import Derived.ProofKit
import Derived.OpenShut
import Derived.ShutString
import Derived.ChangeSame
import Derived.ChangeVars
import Derived.JoinedOf
import Derived.RowKit
import Derived.RowKitTokens
import Derived.LaidLaws
import Derived.LaidHandle
import Derived.Stop.Joined
import Derived.SevenTiedAt
namespace Go.Proofs.Qxb6614674aDoor.fnAlertedRefusesAllButAnAlert
open Go.ChangeShapes Go.WideShapes Go.ChangeAt Go.RowKit
open Go.ChangeMaps (open_string shut_string)
set_option linter.unusedVariables false

theorem own : ownKnob Tryd.prog.godebug = none := by kernel_rfl
theorem et : Tryd.prog.globalNamed "errors.errorType" = some 0 := by kernel_rfl
theorem oneRow : ((List.range 100).filter fun t => Tryd.prog.rowNamed t [101, 114, 114, 111, 114]) = [31] := by kernel_rfl
theorem size : Tryd.prog.types.size = 100 := by kernel_rfl

/-- What the condition gives a walk: the variable's one cell. -/
theorem handle_of_laid {W : World} (h : laidMetH Tryd.prog Rows.fnAlertedRefusesAllButAnAlertRow.laid W) : Al.Laid W := by
  have h' : laidMet Tryd.prog [] W ∧ handlesMet Tryd.prog Rows.fnAlertedRefusesAllButAnAlertRow.laid W := h
  obtain ⟨name, u, ty, e1, e2, e3, e4, e5⟩ := h'.2 _ (List.mem_singleton.2 rfl)
  have en : name = [101, 114, 114, 111, 114] := (Option.some.inj e1).symm
  subst en
  obtain rfl : u = 58 := Option.some.inj (e2.symm.trans (by kernel_rfl))
  have hm : ty ∈ (List.range 100).filter fun t => Tryd.prog.rowNamed t [101, 114, 114, 111, 114] := List.mem_filter.2 ⟨List.mem_range.2 (by rw [← size]; exact e3), e4⟩
  rw [oneRow] at hm
  obtain rfl := List.mem_singleton.1 hm
  have hh : typeHandle Tryd.prog 31 = .pointer (some ⟨1, 31, none⟩) := by kernel_rfl
  rw [hh] at e5
  unfold Al.Laid
  simpa using World.var?_cell et e5 0

/-- A world with the variable's cell laid. -/
def lay (w0 : World) : World :=
  { w0 with heap := w0.heap.modify 0 fun
      | .cells _ t frozen => .cells #[.iface 58 (.agg #[.pointer (some ⟨1, 31, none⟩)])] t frozen
      | o => o }
theorem lay_met (os : Os) (args : Array Value) : laidMetH Tryd.prog Rows.fnAlertedRefusesAllButAnAlertRow.laid ((lay (World.holding Tryd.prog os ⟨#[], #[], []⟩)).forCall (fun _ _ => 0) ⟨#[], args, []⟩).memory :=
  laidMetH_of_parts (laidMet_nil _ _) (by kernel_rfl)

set_option maxRecDepth 100000 in
theorem lifted (os : Os) (started : os.Started) (H : Type) (enc : TypeId × Value → H) :
    ReturnsInHanded {} Tryd.checked os 4 .any (fun w args => (Rows.fnAlertedRefusesAllButAnAlertSpec.pre enc Tryd.prog Tryd.f4 [] false w args ∧ laidMetH Tryd.prog Rows.fnAlertedRefusesAllButAnAlertRow.laid w) ∧ sizedMet enc Tryd.prog Tryd.f4 (OpenSpec.ofChange Rows.fnAlertedRefusesAllButAnAlertSpec) false w args)
      (Rows.fnAlertedRefusesAllButAnAlertSpec.post enc Tryd.prog Tryd.f4 false true false false) := by
  refine returnsInHanded_of_change_and (C := Tryd.checked) (X := fun w _ => laidMetH Tryd.prog Rows.fnAlertedRefusesAllButAnAlertRow.laid w) (fun _ _ _ hh h => h.of_heap hh) own started (by kernel_rfl) Tryd.func4
    (ChangeSpec.witness_at (enc := enc) (C := Tryd.checked) (os := os) (X := fun w _ => laidMetH Tryd.prog Rows.fnAlertedRefusesAllButAnAlertRow.laid w) false (lay (World.holding Tryd.prog os ⟨#[], #[], []⟩)) #[.string ⟨#[]⟩] 8 rfl (by kernel_rfl) (by kernel_rfl) (by kernel_rfl) (by kernel_rfl) (by kernel_rfl) (lay_met os _)) ?_
  intro W base args ds gs before hval0 hW _ _ hL _
  have hval : ∀ (j : Nat) t v, Tryd.f4.params[j]? = some t → args[j]? = some v → Value.okWide Tryd.prog W .any base t v := hval0
  have hW' := hW
  obtain ⟨p, q, hA0, hV, rfl, hfz, hnd⟩ := hW
  have hA : DataW.TrodAll enc Tryd.prog W 0 (fun _ => true) true Tryd.f4.params.toList args.toList ds p := hA0
  rw [Tryd.params4] at hA hval
  obtain ⟨v0, vs0, d0, ds0, p0, q0, hargs, rfl, rfl, h0, r0⟩ := trodAll_cons hA
  obtain ⟨rfl, rfl, rfl⟩ := trodAll_nil r0
  obtain rfl : args = #[v0] := by cases args; simp_all
  obtain ⟨rfl, rfl⟩ := trodVars_none hV
  obtain ⟨a0, rfl, rfl, rfl, w0⟩ := open_string Tryd.underlying9 (hval 0 9 v0 rfl rfl) h0
  clear hA0 hval0
  have hg := handle_of_laid hL
  refine (Al.refuses_any a0 W hg w0).mono fun e W' ⟨he, bel⟩ => ?_
  subst he
  exact ⟨_, rfl, _, _, _, [], _, [], hW', trodAll_mk1 (shut_bool Tryd.underlying4 _), (trodAll_cons_mk (shut_string Tryd.underlying9 w0) trodAll_mk0), rfl, bel.frame _, fun h => by cases h⟩

theorem row : Rows.FnAlertedRefusesAllButAnAlertSaid :=
  OpenClaim.holds_of_wide 4 Tryd.f4 rfl rfl rfl rfl rfl rfl rfl ⟨rfl, rfl, rfl, rfl, rfl⟩ rfl rfl rfl rfl rfl (by kernel_rfl) Tryd.func4 (by kernel_rfl)
    (of_decide_eq_true (by kernel_rfl)) (by unfold Func.isWrapper; first | (rw [if_pos (by decide +kernel)]; kernel_rfl) | (rw [if_neg (by decide +kernel)]; exact ⟨rfl, rfl⟩))
    (fun os started H enc _ => lifted os started H enc)

theorem strings (j : Nat) (t : TypeId) (h : Tryd.f4.params[j]? = some t) : t = 9 := by
  rw [Tryd.params4] at h
  have hm := Array.mem_of_getElem? h
  simpa using hm

/-- The given statement. -/
theorem proved : Rows.FnAlertedRefusesAllButAnAlertCardSaid :=
  Claim7.holds_tied_plain_at .later [] [.handle] true _ true
    row (fun _ h => by cases h) (by kernel_rfl) (fun _ h => by cases h) fnAlertedRefusesAllButAnAlert_row_tie rfl ⟨rfl, rfl⟩ (by kernel_rfl) rfl
    (fun f fn hf hfn => by
      obtain rfl : f = 4 := Option.some.inj ((show Tryd.prog.funcNamed Rows.fnAlertedRefusesAllButAnAlertRow.func = some 4 by kernel_rfl).symm.trans hf) |>.symm
      obtain rfl : fn = Tryd.f4 := (Option.some.inj (Tryd.func4.symm.trans hfn)).symm
      exact ⟨by kernel_rfl, fun j t ht => by
        obtain rfl := strings j t ht
        exact (show Tryd.prog.wantsStandIn 9 = false by kernel_rfl)⟩)
    (by kernel_rfl)
end Go.Proofs.Qxb6614674aDoor.fnAlertedRefusesAllButAnAlert
namespace Go.Proofs.Qxb6614674aDoor
/-- The given statement, by its own name. -/
theorem fnAlertedRefusesAllButAnAlert_proved : Rows.FnAlertedRefusesAllButAnAlertCardSaid := fnAlertedRefusesAllButAnAlert.proved
end Go.Proofs.Qxb6614674aDoor

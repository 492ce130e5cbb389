/-
  No cell of these rows narrows 'for every input' (looked for: loops, veiled, ifaces, maps, wideKeys, modest, calm, conditions, laid).
  DERIVED. THE GIVEN ROWS OF THIS SEAT. 1 by the template 'for every input the law returns true; each argument reads behind the call as it read before'; 0 by the template 'total and deterministic' (their statements: Qxb6614998aTotals.lean).
  GIVEN WITH THE SEED: the statements are not yours to turn. If you find one false, say at which input.
  Laid BY PROGRAM, IN A SANDBOX (cutbox-rows.mjs): the forced cells as the released guide's own fill.sh prints them over the translation 23cc4546688c3f99… (all of the seat's roots in one cut). By AI agents, Wed Nov 11 2026. No macro, syntax, notation, axiom, sorry.
-/
import Derived.Test.Qxb6614998aChecked
import GoSem.Claim
import GoSem.ClaimJoined
import GoSem.ClaimMapViews
import Derived.JoinedTies
import Derived.KernelRfl
namespace Go.Proofs.Qxb6614998a
/- THE CELL 'sum', in the pinned program and in every row, IS THE sha256 OF THE DUMP (.gsa) THAT Qxb6614998aProg.lean LOADS. Nothing in Lean hashes anything: it is a label: what it is worth is what the hold of that sum in a sandbox is worth. -/
noncomputable def Try.pinned : Pinned := { name := "qxb6614998a", sum := "23cc4546688c3f998b0c9033be20e9395cc57569392a3fafd7bb022700638258", checked := Try.checked }
namespace Rows
def none {H : Type} : Left H := { results := [], args := [] }

/-- 'zzlaws_peer_b1.FnGatherHoldsTheConcatenatedRun': WHATEVER THE INPUT: true; the input reads as it did. -/
def fnGatherHoldsTheConcatenatedRunSpec : ChangeSpec := { name := "fnGatherHoldsTheConcatenatedRun", fn := fun _ => fun
  | [d1, d2] => { results := [.lit (.bool true)], args := [d1, d2] }
  | _ => none }
def fnGatherHoldsTheConcatenatedRunRow : OpenClaim := { program := "qxb6614998a", sum := "23cc4546688c3f998b0c9033be20e9395cc57569392a3fafd7bb022700638258", func := "example.com/lodewire/lodewire/zzlaws_peer_b1.FnGatherHoldsTheConcatenatedRun", spec := "fnGatherHoldsTheConcatenatedRun", unfollowed := true, recurses := true, apart := false }
def FnGatherHoldsTheConcatenatedRunSaid : Prop := fnGatherHoldsTheConcatenatedRunRow.holds Try.pinned (OpenSpec.ofChange fnGatherHoldsTheConcatenatedRunSpec)

/-- ITS FALSE NEIGHBOUR: 'it returns false'. Refute it at one input. -/
def fnGatherHoldsTheConcatenatedRunWrong : ChangeSpec := { name := "fnGatherHoldsTheConcatenatedRun", fn := fun _ => fun
  | [d1, d2] => { results := [.lit (.bool false)], args := [d1, d2] }
  | _ => none }
def FnGatherHoldsTheConcatenatedRunWrongFalsely : Prop := fnGatherHoldsTheConcatenatedRunRow.holds Try.pinned (OpenSpec.ofChange fnGatherHoldsTheConcatenatedRunWrong)

end Rows
end Go.Proofs.Qxb6614998a

/-
  No cell of these rows narrows 'for every input' (looked for: loops, veiled, ifaces, maps, wideKeys, modest, calm, conditions, laid).
  DERIVED. THE GIVEN ROWS OF THIS SEAT. 3 by the template 'for every input the law returns true; each argument reads behind the call as it read before'; 0 by the template 'total and deterministic' (their statements: Qxb6614433aTotals.lean).
  GIVEN WITH THE SEED: the statements are not yours to turn. If you find one false, say at which input.
  Laid BY PROGRAM, IN A SANDBOX (cutbox-rows.mjs): the forced cells as the released guide's own fill.sh prints them over the translation 17e5eb3119c3005a… (all of the seat's roots in one cut). By AI agents, Wed Nov 11 2026. No macro, syntax, notation, axiom, sorry.
-/
import Derived.Test.Qxb6614433aChecked
import GoSem.Claim
import GoSem.ClaimJoined
import GoSem.ClaimMapViews
import Derived.JoinedTies
import Derived.KernelRfl
namespace Go.Proofs.Qxb6614433a
/- THE CELL 'sum', in the pinned program and in every row, IS THE sha256 OF THE DUMP (.gsa) THAT Qxb6614433aProg.lean LOADS. Nothing in Lean hashes anything: it is a label: what it is worth is what the hold of that sum in a sandbox is worth. -/
noncomputable def Try.pinned : Pinned := { name := "qxb6614433a", sum := "17e5eb3119c3005a5d7d04a347c09e5b6ceba703163c647126ac34097f2643c5", checked := Try.checked }
namespace Rows
def none {H : Type} : Left H := { results := [], args := [] }

/-- 'zzlaws_root_b1.FnLessScanKeepsTheSoonestAndTheLatest': WHATEVER THE INPUT: true; the input reads as it did. -/
def fnLessScanKeepsTheSoonestAndTheLatestSpec : ChangeSpec := { name := "fnLessScanKeepsTheSoonestAndTheLatest", fn := fun _ => fun
  | [d] => { results := [.lit (.bool true)], args := [d] }
  | _ => none }
def fnLessScanKeepsTheSoonestAndTheLatestRow : OpenClaim := { program := "qxb6614433a", sum := "17e5eb3119c3005a5d7d04a347c09e5b6ceba703163c647126ac34097f2643c5", func := "example.com/countersign/countersign/zzlaws_root_b1.FnLessScanKeepsTheSoonestAndTheLatest", spec := "fnLessScanKeepsTheSoonestAndTheLatest", plainKeys := false, apart := false }
def FnLessScanKeepsTheSoonestAndTheLatestSaid : Prop := fnLessScanKeepsTheSoonestAndTheLatestRow.holds Try.pinned (OpenSpec.ofChange fnLessScanKeepsTheSoonestAndTheLatestSpec)

/-- ITS FALSE NEIGHBOUR: 'it returns false'. Refute it at one input. -/
def fnLessScanKeepsTheSoonestAndTheLatestWrong : ChangeSpec := { name := "fnLessScanKeepsTheSoonestAndTheLatest", fn := fun _ => fun
  | [d] => { results := [.lit (.bool false)], args := [d] }
  | _ => none }
def FnLessScanKeepsTheSoonestAndTheLatestWrongFalsely : Prop := fnLessScanKeepsTheSoonestAndTheLatestRow.holds Try.pinned (OpenSpec.ofChange fnLessScanKeepsTheSoonestAndTheLatestWrong)

/-- 'zzlaws_root_b1.FnRingBucketRepeatsEveryRingLength': WHATEVER THE INPUT: true; the input reads as it did. -/
def fnRingBucketRepeatsEveryRingLengthSpec : ChangeSpec := { name := "fnRingBucketRepeatsEveryRingLength", fn := fun _ => fun
  | [d1, d2, d3] => { results := [.lit (.bool true)], args := [d1, d2, d3] }
  | _ => none }
def fnRingBucketRepeatsEveryRingLengthRow : OpenClaim := { program := "qxb6614433a", sum := "17e5eb3119c3005a5d7d04a347c09e5b6ceba703163c647126ac34097f2643c5", func := "example.com/countersign/countersign/zzlaws_root_b1.FnRingBucketRepeatsEveryRingLength", spec := "fnRingBucketRepeatsEveryRingLength", plainKeys := false, apart := false }
def FnRingBucketRepeatsEveryRingLengthSaid : Prop := fnRingBucketRepeatsEveryRingLengthRow.holds Try.pinned (OpenSpec.ofChange fnRingBucketRepeatsEveryRingLengthSpec)

/-- ITS FALSE NEIGHBOUR: 'it returns false'. Refute it at one input. -/
def fnRingBucketRepeatsEveryRingLengthWrong : ChangeSpec := { name := "fnRingBucketRepeatsEveryRingLength", fn := fun _ => fun
  | [d1, d2, d3] => { results := [.lit (.bool false)], args := [d1, d2, d3] }
  | _ => none }
def FnRingBucketRepeatsEveryRingLengthWrongFalsely : Prop := fnRingBucketRepeatsEveryRingLengthRow.holds Try.pinned (OpenSpec.ofChange fnRingBucketRepeatsEveryRingLengthWrong)

/-- 'zzlaws_root_b1.FnRingBucketSharedExactlyByCongruentMoments': WHATEVER THE INPUT: true; the input reads as it did. -/
def fnRingBucketSharedExactlyByCongruentMomentsSpec : ChangeSpec := { name := "fnRingBucketSharedExactlyByCongruentMoments", fn := fun _ => fun
  | [d1, d2, d3] => { results := [.lit (.bool true)], args := [d1, d2, d3] }
  | _ => none }
def fnRingBucketSharedExactlyByCongruentMomentsRow : OpenClaim := { program := "qxb6614433a", sum := "17e5eb3119c3005a5d7d04a347c09e5b6ceba703163c647126ac34097f2643c5", func := "example.com/countersign/countersign/zzlaws_root_b1.FnRingBucketSharedExactlyByCongruentMoments", spec := "fnRingBucketSharedExactlyByCongruentMoments", plainKeys := false, apart := false }
def FnRingBucketSharedExactlyByCongruentMomentsSaid : Prop := fnRingBucketSharedExactlyByCongruentMomentsRow.holds Try.pinned (OpenSpec.ofChange fnRingBucketSharedExactlyByCongruentMomentsSpec)

/-- ITS FALSE NEIGHBOUR: 'it returns false'. Refute it at one input. -/
def fnRingBucketSharedExactlyByCongruentMomentsWrong : ChangeSpec := { name := "fnRingBucketSharedExactlyByCongruentMoments", fn := fun _ => fun
  | [d1, d2, d3] => { results := [.lit (.bool false)], args := [d1, d2, d3] }
  | _ => none }
def FnRingBucketSharedExactlyByCongruentMomentsWrongFalsely : Prop := fnRingBucketSharedExactlyByCongruentMomentsRow.holds Try.pinned (OpenSpec.ofChange fnRingBucketSharedExactlyByCongruentMomentsWrong)

end Rows
end Go.Proofs.Qxb6614433a

/-
  NARROWER THAN 'FOR EVERY INPUT', by the rows' own cells (each row's printed sentence says how): FnAlertedFirstOpErrorDecides: laid · FnAlertedRefusesAllButAnAlert: laid.
  DERIVED. THE GIVEN ROWS OF THIS SEAT. 2 by the template 'for every input the law returns true; each argument reads behind the call as it read before'; 0 by the template 'total and deterministic' (their statements: Qxb6614674aDoorTotals.lean).
  GIVEN WITH THE SEED: the statements are not yours to turn. If you find one false, say at which input.
  Laid BY PROGRAM, IN A SANDBOX (cutbox-rows.mjs): the forced cells as the released guide's own fill.sh prints them over the translation 6429f652dcc42e4e… (all of the seat's roots in one cut). By AI agents, Wed Nov 11 2026. No macro, syntax, notation, axiom, sorry.
-/
import Derived.Test.Qxb6614674aDoorChecked
import GoSem.Claim
import GoSem.ClaimJoined
import GoSem.ClaimMapViews
import Derived.JoinedTies
import Derived.KernelRfl
namespace Go.Proofs.Qxb6614674aDoor
/- THE CELL 'sum', in the pinned program and in every row, IS THE sha256 OF THE DUMP (.gsa) THAT Qxb6614674aDoorProg.lean LOADS. Nothing in Lean hashes anything: it is a label: what it is worth is what the hold of that sum in a sandbox is worth. -/
noncomputable def Tryd.pinned : Pinned := { name := "qxb6614674adoor", sum := "6429f652dcc42e4ec15da714c7805867bd970cc37de5f9c7d9b70712642a9fcf", checked := Tryd.checked }
namespace Rows
def none {H : Type} : Left H := { results := [], args := [] }

/- WHAT THE LISTED PACKAGE-LEVEL VARIABLES READ AS WHEN THE CALL BEGINS. Each datum BY PROGRAM (the guide's laid-datum.mjs) off the statement by which the dump's own 'gosem.cut.vars' lays the variable. In a bare row this is a premise. The card (Qxb6614674aDoorCards.lean) ties it to the program's text. -/
def laid_errors_errorType {H : Type} : DataW H := .iface "internal/reflectlite.rtype" (.agg [.ptr (.lit (.string [101, 114, 114, 111, 114]))])

/-- 'zzlaws_internal_api_b1.FnAlertedFirstOpErrorDecides': WHATEVER THE INPUT: true; the input reads as it did. -/
def fnAlertedFirstOpErrorDecidesSpec : ChangeSpec := { name := "fnAlertedFirstOpErrorDecides", fn := fun _ => fun
  | [d1, d2, d3] => { results := [.lit (.bool true)], args := [d1, d2, d3] }
  | _ => none }
def fnAlertedFirstOpErrorDecidesRow : OpenClaim := { program := "qxb6614674adoor", sum := "6429f652dcc42e4ec15da714c7805867bd970cc37de5f9c7d9b70712642a9fcf", func := "example.com/dormancy/dormancy/zzlaws_internal_api_b1.FnAlertedFirstOpErrorDecides", spec := "fnAlertedFirstOpErrorDecides", inPlace := ["internal/reflectlite.ValueOf", "(internal/reflectlite.Value).Type", "(internal/reflectlite.Value).IsNil", "internal/reflectlite.TypeOf", "(internal/reflectlite.Value).Elem", "(internal/reflectlite.Value).Set"], unfollowed := true, recurses := true, named := ["errors.errorType"], apart := false, laid := [("errors.errorType", laid_errors_errorType)] }
def FnAlertedFirstOpErrorDecidesSaid : Prop := fnAlertedFirstOpErrorDecidesRow.holds Tryd.pinned (OpenSpec.ofChange fnAlertedFirstOpErrorDecidesSpec)

/-- ITS FALSE NEIGHBOUR: 'it returns false'. Refute it at one input. -/
def fnAlertedFirstOpErrorDecidesWrong : ChangeSpec := { name := "fnAlertedFirstOpErrorDecides", fn := fun _ => fun
  | [d1, d2, d3] => { results := [.lit (.bool false)], args := [d1, d2, d3] }
  | _ => none }
def FnAlertedFirstOpErrorDecidesWrongFalsely : Prop := fnAlertedFirstOpErrorDecidesRow.holds Tryd.pinned (OpenSpec.ofChange fnAlertedFirstOpErrorDecidesWrong)

/-- 'zzlaws_internal_api_b1.FnAlertedRefusesAllButAnAlert': WHATEVER THE INPUT: true; the input reads as it did. -/
def fnAlertedRefusesAllButAnAlertSpec : ChangeSpec := { name := "fnAlertedRefusesAllButAnAlert", fn := fun _ => fun
  | [d] => { results := [.lit (.bool true)], args := [d] }
  | _ => none }
def fnAlertedRefusesAllButAnAlertRow : OpenClaim := { program := "qxb6614674adoor", sum := "6429f652dcc42e4ec15da714c7805867bd970cc37de5f9c7d9b70712642a9fcf", func := "example.com/dormancy/dormancy/zzlaws_internal_api_b1.FnAlertedRefusesAllButAnAlert", spec := "fnAlertedRefusesAllButAnAlert", inPlace := ["internal/reflectlite.ValueOf", "(internal/reflectlite.Value).Type", "(internal/reflectlite.Value).IsNil", "internal/reflectlite.TypeOf", "(internal/reflectlite.Value).Elem", "(internal/reflectlite.Value).Set"], unfollowed := true, recurses := true, named := ["errors.errorType"], apart := false, laid := [("errors.errorType", laid_errors_errorType)] }
def FnAlertedRefusesAllButAnAlertSaid : Prop := fnAlertedRefusesAllButAnAlertRow.holds Tryd.pinned (OpenSpec.ofChange fnAlertedRefusesAllButAnAlertSpec)

/-- ITS FALSE NEIGHBOUR: 'it returns false'. Refute it at one input. -/
def fnAlertedRefusesAllButAnAlertWrong : ChangeSpec := { name := "fnAlertedRefusesAllButAnAlert", fn := fun _ => fun
  | [d] => { results := [.lit (.bool false)], args := [d] }
  | _ => none }
def FnAlertedRefusesAllButAnAlertWrongFalsely : Prop := fnAlertedRefusesAllButAnAlertRow.holds Tryd.pinned (OpenSpec.ofChange fnAlertedRefusesAllButAnAlertWrong)

end Rows
end Go.Proofs.Qxb6614674aDoor

/-
  No cell of these rows narrows 'for every input' (looked for: loops, veiled, ifaces, maps, wideKeys, modest, calm, conditions, laid).
  DERIVED. THE GIVEN ROWS OF THIS SEAT. 4 by the template 'for every input the law returns true; each argument reads behind the call as it read before'; 0 by the template 'total and deterministic' (their statements: Qxb6003015aTotals.lean).
  GIVEN WITH THE SEED: the statements are not yours to turn. If you find one false, say at which input.
  Laid BY PROGRAM, IN A SANDBOX (cutbox-rows.mjs): the forced cells as the released guide's own fill.sh prints them over the translation ae479f2260883586… (all of the seat's roots in one cut). By AI agents, Wed Nov 11 2026. No macro, syntax, notation, axiom, sorry.
-/
import Derived.Test.Qxb6003015aChecked
import GoSem.Claim
import GoSem.ClaimJoined
import GoSem.ClaimMapViews
import Derived.JoinedTies
import Derived.KernelRfl
namespace Go.Proofs.Qxb6003015a
/- THE CELL 'sum', in the pinned program and in every row, IS THE sha256 OF THE DUMP (.gsa) THAT Qxb6003015aProg.lean LOADS. Nothing in Lean hashes anything: it is a label: what it is worth is what the hold of that sum in a sandbox is worth. -/
noncomputable def Try.pinned : Pinned := { name := "qxb6003015a", sum := "ae479f2260883586b99c15a0380f24efa9caf33b497bf61a511d5971a6caf3a0", checked := Try.checked }
namespace Rows
def none {H : Type} : Left H := { results := [], args := [] }

/-- 'zzlaws_aka_b1.FnSQNFromBytesMatchesPositional': WHATEVER THE INPUT: true; the input reads as it did. -/
def fnSQNFromBytesMatchesPositionalSpec : ChangeSpec := { name := "fnSQNFromBytesMatchesPositional", fn := fun _ => fun
  | [d] => { results := [.lit (.bool true)], args := [d] }
  | _ => none }
def fnSQNFromBytesMatchesPositionalRow : OpenClaim := { program := "qxb6003015a", sum := "ae479f2260883586b99c15a0380f24efa9caf33b497bf61a511d5971a6caf3a0", func := "example.com/roamkey/roamkey/zzlaws_aka_b1.FnSQNFromBytesMatchesPositional", spec := "fnSQNFromBytesMatchesPositional", apart := false }
def FnSQNFromBytesMatchesPositionalSaid : Prop := fnSQNFromBytesMatchesPositionalRow.holds Try.pinned (OpenSpec.ofChange fnSQNFromBytesMatchesPositionalSpec)

/-- ITS FALSE NEIGHBOUR: 'it returns false'. Refute it at one input. -/
def fnSQNFromBytesMatchesPositionalWrong : ChangeSpec := { name := "fnSQNFromBytesMatchesPositional", fn := fun _ => fun
  | [d] => { results := [.lit (.bool false)], args := [d] }
  | _ => none }
def FnSQNFromBytesMatchesPositionalWrongFalsely : Prop := fnSQNFromBytesMatchesPositionalRow.holds Try.pinned (OpenSpec.ofChange fnSQNFromBytesMatchesPositionalWrong)

/-- 'zzlaws_aka_b1.FnBytesMatchesDivision': WHATEVER THE INPUT: true; the input reads as it did. -/
def fnBytesMatchesDivisionSpec : ChangeSpec := { name := "fnBytesMatchesDivision", fn := fun _ => fun
  | [d] => { results := [.lit (.bool true)], args := [d] }
  | _ => none }
def fnBytesMatchesDivisionRow : OpenClaim := { program := "qxb6003015a", sum := "ae479f2260883586b99c15a0380f24efa9caf33b497bf61a511d5971a6caf3a0", func := "example.com/roamkey/roamkey/zzlaws_aka_b1.FnBytesMatchesDivision", spec := "fnBytesMatchesDivision", apart := false }
def FnBytesMatchesDivisionSaid : Prop := fnBytesMatchesDivisionRow.holds Try.pinned (OpenSpec.ofChange fnBytesMatchesDivisionSpec)

/-- ITS FALSE NEIGHBOUR: 'it returns false'. Refute it at one input. -/
def fnBytesMatchesDivisionWrong : ChangeSpec := { name := "fnBytesMatchesDivision", fn := fun _ => fun
  | [d] => { results := [.lit (.bool false)], args := [d] }
  | _ => none }
def FnBytesMatchesDivisionWrongFalsely : Prop := fnBytesMatchesDivisionRow.holds Try.pinned (OpenSpec.ofChange fnBytesMatchesDivisionWrong)

/-- 'zzlaws_aka_b1.FnBytesOrderAgreesWithNumber': WHATEVER THE INPUT: true; the input reads as it did. -/
def fnBytesOrderAgreesWithNumberSpec : ChangeSpec := { name := "fnBytesOrderAgreesWithNumber", fn := fun _ => fun
  | [d1, d2] => { results := [.lit (.bool true)], args := [d1, d2] }
  | _ => none }
def fnBytesOrderAgreesWithNumberRow : OpenClaim := { program := "qxb6003015a", sum := "ae479f2260883586b99c15a0380f24efa9caf33b497bf61a511d5971a6caf3a0", func := "example.com/roamkey/roamkey/zzlaws_aka_b1.FnBytesOrderAgreesWithNumber", spec := "fnBytesOrderAgreesWithNumber", apart := false }
def FnBytesOrderAgreesWithNumberSaid : Prop := fnBytesOrderAgreesWithNumberRow.holds Try.pinned (OpenSpec.ofChange fnBytesOrderAgreesWithNumberSpec)

/-- ITS FALSE NEIGHBOUR: 'it returns false'. Refute it at one input. -/
def fnBytesOrderAgreesWithNumberWrong : ChangeSpec := { name := "fnBytesOrderAgreesWithNumber", fn := fun _ => fun
  | [d1, d2] => { results := [.lit (.bool false)], args := [d1, d2] }
  | _ => none }
def FnBytesOrderAgreesWithNumberWrongFalsely : Prop := fnBytesOrderAgreesWithNumberRow.holds Try.pinned (OpenSpec.ofChange fnBytesOrderAgreesWithNumberWrong)

/-- 'zzlaws_aka_b1.FnNextScriptClimbs': WHATEVER THE INPUT: true; the input reads as it did. -/
def fnNextScriptClimbsSpec : ChangeSpec := { name := "fnNextScriptClimbs", fn := fun _ => fun
  | [d1, d2] => { results := [.lit (.bool true)], args := [d1, d2] }
  | _ => none }
def fnNextScriptClimbsRow : OpenClaim := { program := "qxb6003015a", sum := "ae479f2260883586b99c15a0380f24efa9caf33b497bf61a511d5971a6caf3a0", func := "example.com/roamkey/roamkey/zzlaws_aka_b1.FnNextScriptClimbs", spec := "fnNextScriptClimbs", apart := false }
def FnNextScriptClimbsSaid : Prop := fnNextScriptClimbsRow.holds Try.pinned (OpenSpec.ofChange fnNextScriptClimbsSpec)

/-- ITS FALSE NEIGHBOUR: 'it returns false'. Refute it at one input. -/
def fnNextScriptClimbsWrong : ChangeSpec := { name := "fnNextScriptClimbs", fn := fun _ => fun
  | [d1, d2] => { results := [.lit (.bool false)], args := [d1, d2] }
  | _ => none }
def FnNextScriptClimbsWrongFalsely : Prop := fnNextScriptClimbsRow.holds Try.pinned (OpenSpec.ofChange fnNextScriptClimbsWrong)

end Rows
end Go.Proofs.Qxb6003015a

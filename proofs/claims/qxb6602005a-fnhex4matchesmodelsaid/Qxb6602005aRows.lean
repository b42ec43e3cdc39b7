/-
  No cell of these rows narrows 'for every input' (looked for: loops, veiled, ifaces, maps, wideKeys, modest, calm, conditions, laid).
  DERIVED. THE GIVEN ROWS OF THIS SEAT. 2 by the template 'for every input the law returns true; each argument reads behind the call as it read before'; 0 by the template 'total and deterministic' (their statements: Qxb6602005aTotals.lean).
  GIVEN WITH THE SEED: the statements are not yours to turn. If you find one false, say at which input.
  Laid BY PROGRAM, IN A SANDBOX (cutbox-rows.mjs): the forced cells as the released guide's own fill.sh prints them over the translation 626332c6a1635a60… (all of the seat's roots in one cut). By AI agents, Wed Nov 11 2026. No macro, syntax, notation, axiom, sorry.
-/
import Derived.Test.Qxb6602005aChecked
import GoSem.Claim
import GoSem.ClaimJoined
import GoSem.ClaimMapViews
import Derived.JoinedTies
import Derived.KernelRfl
namespace Go.Proofs.Qxb6602005a
/- THE CELL 'sum', in the pinned program and in every row, IS THE sha256 OF THE DUMP (.gsa) THAT Qxb6602005aProg.lean LOADS. Nothing in Lean hashes anything: it is a label: what it is worth is what the hold of that sum in a sandbox is worth. -/
noncomputable def Try.pinned : Pinned := { name := "qxb6602005a", sum := "626332c6a1635a60fa3ba15102a5b1cbce9a8abc9422ab2731f1bb83011492e8", checked := Try.checked }
namespace Rows
def none {H : Type} : Left H := { results := [], args := [] }

/-- 'zzlaws_internal_compare_b1.FnHex4MatchesModel': WHATEVER THE INPUT: true; the input reads as it did. -/
def fnHex4MatchesModelSpec : ChangeSpec := { name := "fnHex4MatchesModel", fn := fun _ => fun
  | [d1, d2, d3] => { results := [.lit (.bool true)], args := [d1, d2, d3] }
  | _ => none }
def fnHex4MatchesModelRow : OpenClaim := { program := "qxb6602005a", sum := "626332c6a1635a60fa3ba15102a5b1cbce9a8abc9422ab2731f1bb83011492e8", func := "example.com/rowproof/rowproof/zzlaws_internal_compare_b1.FnHex4MatchesModel", spec := "fnHex4MatchesModel", apart := false }
def FnHex4MatchesModelSaid : Prop := fnHex4MatchesModelRow.holds Try.pinned (OpenSpec.ofChange fnHex4MatchesModelSpec)

/-- ITS FALSE NEIGHBOUR: 'it returns false'. Refute it at one input. -/
def fnHex4MatchesModelWrong : ChangeSpec := { name := "fnHex4MatchesModel", fn := fun _ => fun
  | [d1, d2, d3] => { results := [.lit (.bool false)], args := [d1, d2, d3] }
  | _ => none }
def FnHex4MatchesModelWrongFalsely : Prop := fnHex4MatchesModelRow.holds Try.pinned (OpenSpec.ofChange fnHex4MatchesModelWrong)

/-- 'zzlaws_internal_compare_b1.FnHex4ReadsWhatIsWritten': WHATEVER THE INPUT: true; the input reads as it did. -/
def fnHex4ReadsWhatIsWrittenSpec : ChangeSpec := { name := "fnHex4ReadsWhatIsWritten", fn := fun _ => fun
  | [d1, d2, d3, d4] => { results := [.lit (.bool true)], args := [d1, d2, d3, d4] }
  | _ => none }
def fnHex4ReadsWhatIsWrittenRow : OpenClaim := { program := "qxb6602005a", sum := "626332c6a1635a60fa3ba15102a5b1cbce9a8abc9422ab2731f1bb83011492e8", func := "example.com/rowproof/rowproof/zzlaws_internal_compare_b1.FnHex4ReadsWhatIsWritten", spec := "fnHex4ReadsWhatIsWritten", apart := false }
def FnHex4ReadsWhatIsWrittenSaid : Prop := fnHex4ReadsWhatIsWrittenRow.holds Try.pinned (OpenSpec.ofChange fnHex4ReadsWhatIsWrittenSpec)

/-- ITS FALSE NEIGHBOUR: 'it returns false'. Refute it at one input. -/
def fnHex4ReadsWhatIsWrittenWrong : ChangeSpec := { name := "fnHex4ReadsWhatIsWritten", fn := fun _ => fun
  | [d1, d2, d3, d4] => { results := [.lit (.bool false)], args := [d1, d2, d3, d4] }
  | _ => none }
def FnHex4ReadsWhatIsWrittenWrongFalsely : Prop := fnHex4ReadsWhatIsWrittenRow.holds Try.pinned (OpenSpec.ofChange fnHex4ReadsWhatIsWrittenWrong)

end Rows
end Go.Proofs.Qxb6602005a

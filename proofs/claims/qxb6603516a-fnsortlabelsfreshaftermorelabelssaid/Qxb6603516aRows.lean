/-
  No cell of these rows narrows 'for every input' (looked for: loops, veiled, ifaces, maps, wideKeys, modest, calm, conditions, laid).
  DERIVED. THE GIVEN ROWS OF THIS SEAT. 2 by the template 'for every input the law returns true; each argument reads behind the call as it read before'; 0 by the template 'total and deterministic' (their statements: Qxb6603516aTotals.lean).
  GIVEN WITH THE SEED: the statements are not yours to turn. If you find one false, say at which input.
  Laid BY PROGRAM, IN A SANDBOX (cutbox-rows.mjs): the forced cells as the released guide's own fill.sh prints them over the translation 71a20bef84d5b812… (all of the seat's roots in one cut). By AI agents, Wed Nov 11 2026. No macro, syntax, notation, axiom, sorry.
-/
import Derived.Test.Qxb6603516aChecked
import GoSem.Claim
import GoSem.ClaimJoined
import GoSem.ClaimMapViews
import Derived.JoinedTies
import Derived.KernelRfl
namespace Go.Proofs.Qxb6603516a
/- THE CELL 'sum', in the pinned program and in every row, IS THE sha256 OF THE DUMP (.gsa) THAT Qxb6603516aProg.lean LOADS. Nothing in Lean hashes anything: it is a label: what it is worth is what the hold of that sum in a sandbox is worth. -/
noncomputable def Try.pinned : Pinned := { name := "qxb6603516a", sum := "71a20bef84d5b8122841b848065281de6fc54d12dc80bba087b2073c5d68aa7e", checked := Try.checked }
namespace Rows
def none {H : Type} : Left H := { results := [], args := [] }

/-- 'zzlaws_pkg_acl_b1.FnSortLabelsSortedDistinct': WHATEVER THE INPUT: true; the input reads as it did. -/
def fnSortLabelsSortedDistinctSpec : ChangeSpec := { name := "fnSortLabelsSortedDistinct", fn := fun _ => fun
  | [d] => { results := [.lit (.bool true)], args := [d] }
  | _ => none }
def fnSortLabelsSortedDistinctRow : OpenClaim := { program := "qxb6603516a", sum := "71a20bef84d5b8122841b848065281de6fc54d12dc80bba087b2073c5d68aa7e", func := "example.com/thistle/thistle/zzlaws_pkg_acl_b1.FnSortLabelsSortedDistinct", spec := "fnSortLabelsSortedDistinct", unfollowed := true, recurses := true, apart := false }
def FnSortLabelsSortedDistinctSaid : Prop := fnSortLabelsSortedDistinctRow.holds Try.pinned (OpenSpec.ofChange fnSortLabelsSortedDistinctSpec)

/-- ITS FALSE NEIGHBOUR: 'it returns false'. Refute it at one input. -/
def fnSortLabelsSortedDistinctWrong : ChangeSpec := { name := "fnSortLabelsSortedDistinct", fn := fun _ => fun
  | [d] => { results := [.lit (.bool false)], args := [d] }
  | _ => none }
def FnSortLabelsSortedDistinctWrongFalsely : Prop := fnSortLabelsSortedDistinctRow.holds Try.pinned (OpenSpec.ofChange fnSortLabelsSortedDistinctWrong)

/-- 'zzlaws_pkg_acl_b1.FnSortLabelsFreshAfterMoreLabels': WHATEVER THE INPUT: true; the input reads as it did. -/
def fnSortLabelsFreshAfterMoreLabelsSpec : ChangeSpec := { name := "fnSortLabelsFreshAfterMoreLabels", fn := fun _ => fun
  | [d1, d2] => { results := [.lit (.bool true)], args := [d1, d2] }
  | _ => none }
def fnSortLabelsFreshAfterMoreLabelsRow : OpenClaim := { program := "qxb6603516a", sum := "71a20bef84d5b8122841b848065281de6fc54d12dc80bba087b2073c5d68aa7e", func := "example.com/thistle/thistle/zzlaws_pkg_acl_b1.FnSortLabelsFreshAfterMoreLabels", spec := "fnSortLabelsFreshAfterMoreLabels", unfollowed := true, recurses := true, apart := false }
def FnSortLabelsFreshAfterMoreLabelsSaid : Prop := fnSortLabelsFreshAfterMoreLabelsRow.holds Try.pinned (OpenSpec.ofChange fnSortLabelsFreshAfterMoreLabelsSpec)

/-- ITS FALSE NEIGHBOUR: 'it returns false'. Refute it at one input. -/
def fnSortLabelsFreshAfterMoreLabelsWrong : ChangeSpec := { name := "fnSortLabelsFreshAfterMoreLabels", fn := fun _ => fun
  | [d1, d2] => { results := [.lit (.bool false)], args := [d1, d2] }
  | _ => none }
def FnSortLabelsFreshAfterMoreLabelsWrongFalsely : Prop := fnSortLabelsFreshAfterMoreLabelsRow.holds Try.pinned (OpenSpec.ofChange fnSortLabelsFreshAfterMoreLabelsWrong)

end Rows
end Go.Proofs.Qxb6603516a

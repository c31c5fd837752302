/-
  No cell of these rows narrows 'for every input' (looked for: loops, veiled, ifaces, maps, wideKeys, modest, calm, conditions, laid).
  DERIVED. THE GIVEN ROWS OF THIS SEAT. 2 by the template 'for every input the law returns true; each argument reads behind the call as it read before'; 0 by the template 'total and deterministic' (their statements: YbulkabweTotals.lean).
  GIVEN WITH THE SEED: the statements are not yours to turn. If you find one false, say at which input.
  Laid BY PROGRAM, IN A SANDBOX (cutbox-rows.mjs): the forced cells as the released guide's own fill.sh prints them over the translation 96096bf29e050403… (all of the seat's roots in one cut). By AI agents, Wed Nov 11 2026. No macro, syntax, notation, axiom, sorry.
-/
import Derived.Test.YbulkabweChecked
import GoSem.Claim
import GoSem.ClaimJoined
import GoSem.ClaimMapViews
import Derived.JoinedTies
import Derived.KernelRfl
namespace Go.Proofs.Ybulkabwe
/- THE CELL 'sum', in the pinned program and in every row, IS THE sha256 OF THE DUMP (.gsa) THAT YbulkabweProg.lean LOADS. Nothing in Lean hashes anything: it is a label: what it is worth is what the hold of that sum in a sandbox is worth. -/
noncomputable def Yba.pinned : Pinned := { name := "ybulkabwe", sum := "96096bf29e050403369bbadedb6409e0ab526a25667fb384e32e5a24d7217c27", checked := Yba.checked }
namespace Rows
def none {H : Type} : Left H := { results := [], args := [] }

/-- 'x509.LawS1395CAgrees': WHATEVER THE INPUT: true; the input reads as it did. -/
def lawS1395CAgreesSpec : ChangeSpec := { name := "lawS1395CAgrees", fn := fun _ => fun
  | [d1, d2, d3] => { results := [.lit (.bool true)], args := [d1, d2, d3] }
  | _ => none }
def lawS1395CAgreesRow : OpenClaim := { program := "ybulkabwe", sum := "96096bf29e050403369bbadedb6409e0ab526a25667fb384e32e5a24d7217c27", func := "example.com/assay/assay/x509.LawS1395CAgrees", spec := "lawS1395CAgrees", apart := false }
def LawS1395CAgreesSaid : Prop := lawS1395CAgreesRow.holds Yba.pinned (OpenSpec.ofChange lawS1395CAgreesSpec)

/-- ITS FALSE NEIGHBOUR: 'it returns false'. Refute it at one input. -/
def lawS1395CAgreesWrong : ChangeSpec := { name := "lawS1395CAgrees", fn := fun _ => fun
  | [d1, d2, d3] => { results := [.lit (.bool false)], args := [d1, d2, d3] }
  | _ => none }
def LawS1395CAgreesWrongFalsely : Prop := lawS1395CAgreesRow.holds Yba.pinned (OpenSpec.ofChange lawS1395CAgreesWrong)

/-- 'x509.LawS1395CFindsPresent': WHATEVER THE INPUT: true; the input reads as it did. -/
def lawS1395CFindsPresentSpec : ChangeSpec := { name := "lawS1395CFindsPresent", fn := fun _ => fun
  | [d1, d2, d3] => { results := [.lit (.bool true)], args := [d1, d2, d3] }
  | _ => none }
def lawS1395CFindsPresentRow : OpenClaim := { program := "ybulkabwe", sum := "96096bf29e050403369bbadedb6409e0ab526a25667fb384e32e5a24d7217c27", func := "example.com/assay/assay/x509.LawS1395CFindsPresent", spec := "lawS1395CFindsPresent", apart := false }
def LawS1395CFindsPresentSaid : Prop := lawS1395CFindsPresentRow.holds Yba.pinned (OpenSpec.ofChange lawS1395CFindsPresentSpec)

/-- ITS FALSE NEIGHBOUR: 'it returns false'. Refute it at one input. -/
def lawS1395CFindsPresentWrong : ChangeSpec := { name := "lawS1395CFindsPresent", fn := fun _ => fun
  | [d1, d2, d3] => { results := [.lit (.bool false)], args := [d1, d2, d3] }
  | _ => none }
def LawS1395CFindsPresentWrongFalsely : Prop := lawS1395CFindsPresentRow.holds Yba.pinned (OpenSpec.ofChange lawS1395CFindsPresentWrong)

end Rows
end Go.Proofs.Ybulkabwe

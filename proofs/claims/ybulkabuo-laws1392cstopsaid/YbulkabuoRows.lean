/-
  No cell of these rows narrows 'for every input' (looked for: loops, veiled, ifaces, maps, wideKeys, modest, calm, conditions, laid).
  DERIVED. THE GIVEN ROWS OF THIS SEAT. 4 by the template 'for every input the law returns true; each argument reads behind the call as it read before'; 0 by the template 'total and deterministic' (their statements: YbulkabuoTotals.lean).
  GIVEN WITH THE SEED: the statements are not yours to turn. If you find one false, say at which input.
  Laid BY PROGRAM, IN A SANDBOX (cutbox-rows.mjs): the forced cells as the released guide's own fill.sh prints them over the translation ec9a89d2b6bc13c4… (all of the seat's roots in one cut). By AI agents, Wed Nov 11 2026. No macro, syntax, notation, axiom, sorry.
-/
import Derived.Test.YbulkabuoChecked
import GoSem.Claim
import GoSem.ClaimJoined
import GoSem.ClaimMapViews
import Derived.JoinedTies
import Derived.KernelRfl
namespace Go.Proofs.Ybulkabuo
/- THE CELL 'sum', in the pinned program and in every row, IS THE sha256 OF THE DUMP (.gsa) THAT YbulkabuoProg.lean LOADS. Nothing in Lean hashes anything: it is a label: what it is worth is what the hold of that sum in a sandbox is worth. -/
noncomputable def Yba.pinned : Pinned := { name := "ybulkabuo", sum := "ec9a89d2b6bc13c453ac0cb9ba599aa31a70d18cc3b01d2edafd2658ebbb376c", checked := Yba.checked }
namespace Rows
def none {H : Type} : Left H := { results := [], args := [] }

/-- 'keyparley.LawS1392BDelegates': WHATEVER THE INPUT: true; the input reads as it did. -/
def lawS1392BDelegatesSpec : ChangeSpec := { name := "lawS1392BDelegates", fn := fun _ => fun
  | [d1, d2, d3, d4, d5, d6, d7] => { results := [.lit (.bool true)], args := [d1, d2, d3, d4, d5, d6, d7] }
  | _ => none }
def lawS1392BDelegatesRow : OpenClaim := { program := "ybulkabuo", sum := "ec9a89d2b6bc13c453ac0cb9ba599aa31a70d18cc3b01d2edafd2658ebbb376c", func := "example.com/keyparley/keyparley.LawS1392BDelegates", spec := "lawS1392BDelegates", unfollowed := true, recurses := true, apart := false }
def LawS1392BDelegatesSaid : Prop := lawS1392BDelegatesRow.holds Yba.pinned (OpenSpec.ofChange lawS1392BDelegatesSpec)

/-- ITS FALSE NEIGHBOUR: 'it returns false'. Refute it at one input. -/
def lawS1392BDelegatesWrong : ChangeSpec := { name := "lawS1392BDelegates", fn := fun _ => fun
  | [d1, d2, d3, d4, d5, d6, d7] => { results := [.lit (.bool false)], args := [d1, d2, d3, d4, d5, d6, d7] }
  | _ => none }
def LawS1392BDelegatesWrongFalsely : Prop := lawS1392BDelegatesRow.holds Yba.pinned (OpenSpec.ofChange lawS1392BDelegatesWrong)

/-- 'keyparley.LawS1392BNilContent': WHATEVER THE INPUT: true; the input reads as it did. -/
def lawS1392BNilContentSpec : ChangeSpec := { name := "lawS1392BNilContent", fn := fun _ => fun
  | [d1, d2, d3] => { results := [.lit (.bool true)], args := [d1, d2, d3] }
  | _ => none }
def lawS1392BNilContentRow : OpenClaim := { program := "ybulkabuo", sum := "ec9a89d2b6bc13c453ac0cb9ba599aa31a70d18cc3b01d2edafd2658ebbb376c", func := "example.com/keyparley/keyparley.LawS1392BNilContent", spec := "lawS1392BNilContent", unfollowed := true, recurses := true, apart := false }
def LawS1392BNilContentSaid : Prop := lawS1392BNilContentRow.holds Yba.pinned (OpenSpec.ofChange lawS1392BNilContentSpec)

/-- ITS FALSE NEIGHBOUR: 'it returns false'. Refute it at one input. -/
def lawS1392BNilContentWrong : ChangeSpec := { name := "lawS1392BNilContent", fn := fun _ => fun
  | [d1, d2, d3] => { results := [.lit (.bool false)], args := [d1, d2, d3] }
  | _ => none }
def LawS1392BNilContentWrongFalsely : Prop := lawS1392BNilContentRow.holds Yba.pinned (OpenSpec.ofChange lawS1392BNilContentWrong)

/-- 'keyparley.LawS1392CAll': WHATEVER THE INPUT: true; the input reads as it did. -/
def lawS1392CAllSpec : ChangeSpec := { name := "lawS1392CAll", fn := fun _ => fun
  | [d] => { results := [.lit (.bool true)], args := [d] }
  | _ => none }
def lawS1392CAllRow : OpenClaim := { program := "ybulkabuo", sum := "ec9a89d2b6bc13c453ac0cb9ba599aa31a70d18cc3b01d2edafd2658ebbb376c", func := "example.com/keyparley/keyparley.LawS1392CAll", spec := "lawS1392CAll", unfollowed := true, recurses := true, apart := false }
def LawS1392CAllSaid : Prop := lawS1392CAllRow.holds Yba.pinned (OpenSpec.ofChange lawS1392CAllSpec)

/-- ITS FALSE NEIGHBOUR: 'it returns false'. Refute it at one input. -/
def lawS1392CAllWrong : ChangeSpec := { name := "lawS1392CAll", fn := fun _ => fun
  | [d] => { results := [.lit (.bool false)], args := [d] }
  | _ => none }
def LawS1392CAllWrongFalsely : Prop := lawS1392CAllRow.holds Yba.pinned (OpenSpec.ofChange lawS1392CAllWrong)

/-- 'keyparley.LawS1392CStop': WHATEVER THE INPUT: true; the input reads as it did. -/
def lawS1392CStopSpec : ChangeSpec := { name := "lawS1392CStop", fn := fun _ => fun
  | [d1, d2] => { results := [.lit (.bool true)], args := [d1, d2] }
  | _ => none }
def lawS1392CStopRow : OpenClaim := { program := "ybulkabuo", sum := "ec9a89d2b6bc13c453ac0cb9ba599aa31a70d18cc3b01d2edafd2658ebbb376c", func := "example.com/keyparley/keyparley.LawS1392CStop", spec := "lawS1392CStop", unfollowed := true, recurses := true, apart := false }
def LawS1392CStopSaid : Prop := lawS1392CStopRow.holds Yba.pinned (OpenSpec.ofChange lawS1392CStopSpec)

/-- ITS FALSE NEIGHBOUR: 'it returns false'. Refute it at one input. -/
def lawS1392CStopWrong : ChangeSpec := { name := "lawS1392CStop", fn := fun _ => fun
  | [d1, d2] => { results := [.lit (.bool false)], args := [d1, d2] }
  | _ => none }
def LawS1392CStopWrongFalsely : Prop := lawS1392CStopRow.holds Yba.pinned (OpenSpec.ofChange lawS1392CStopWrong)

end Rows
end Go.Proofs.Ybulkabuo

/-
  No cell of these rows narrows 'for every input' (looked for: loops, veiled, ifaces, maps, wideKeys, modest, calm, conditions, laid).
  DERIVED. THE GIVEN ROWS OF THIS SEAT. 3 by the template 'for every input the law returns true; each argument reads behind the call as it read before'; 0 by the template 'total and deterministic' (their statements: YbulkabwsTotals.lean).
  GIVEN WITH THE SEED: the statements are not yours to turn. If you find one false, say at which input.
  Laid BY PROGRAM, IN A SANDBOX (cutbox-rows.mjs): the forced cells as the released guide's own fill.sh prints them over the translation c79e08f21eb1c367… (all of the seat's roots in one cut). By AI agents, Wed Nov 11 2026. No macro, syntax, notation, axiom, sorry.
-/
import Derived.Test.YbulkabwsChecked
import GoSem.Claim
import GoSem.ClaimJoined
import GoSem.ClaimMapViews
import Derived.JoinedTies
import Derived.KernelRfl
namespace Go.Proofs.Ybulkabws
/- THE CELL 'sum', in the pinned program and in every row, IS THE sha256 OF THE DUMP (.gsa) THAT YbulkabwsProg.lean LOADS. Nothing in Lean hashes anything: it is a label: what it is worth is what the hold of that sum in a sandbox is worth. -/
noncomputable def Yba.pinned : Pinned := { name := "ybulkabws", sum := "c79e08f21eb1c367d0bfe67c96fd4d1e16d11cd116813bbcda3eaed3cf69e13e", checked := Yba.checked }
namespace Rows
def none {H : Type} : Left H := { results := [], args := [] }

/-- 'cbor.LawS1396AKinds': WHATEVER THE INPUT: true; the input reads as it did. -/
def lawS1396AKindsSpec : ChangeSpec := { name := "lawS1396AKinds", fn := fun _ => fun
  | [d1, d2, d3, d4] => { results := [.lit (.bool true)], args := [d1, d2, d3, d4] }
  | _ => none }
def lawS1396AKindsRow : OpenClaim := { program := "ybulkabws", sum := "c79e08f21eb1c367d0bfe67c96fd4d1e16d11cd116813bbcda3eaed3cf69e13e", func := "example.com/vouchsafe/vouchsafe/internal/cbor.LawS1396AKinds", spec := "lawS1396AKinds", inPlace := ["math.Float64frombits"], apart := false }
def LawS1396AKindsSaid : Prop := lawS1396AKindsRow.holds Yba.pinned (OpenSpec.ofChange lawS1396AKindsSpec)

/-- ITS FALSE NEIGHBOUR: 'it returns false'. Refute it at one input. -/
def lawS1396AKindsWrong : ChangeSpec := { name := "lawS1396AKinds", fn := fun _ => fun
  | [d1, d2, d3, d4] => { results := [.lit (.bool false)], args := [d1, d2, d3, d4] }
  | _ => none }
def LawS1396AKindsWrongFalsely : Prop := lawS1396AKindsRow.holds Yba.pinned (OpenSpec.ofChange lawS1396AKindsWrong)

/-- 'jsontext.LawS1396CSpans': WHATEVER THE INPUT: true; the input reads as it did. -/
def lawS1396CSpansSpec : ChangeSpec := { name := "lawS1396CSpans", fn := fun _ => fun
  | [d1, d2, d3, d4] => { results := [.lit (.bool true)], args := [d1, d2, d3, d4] }
  | _ => none }
def lawS1396CSpansRow : OpenClaim := { program := "ybulkabws", sum := "c79e08f21eb1c367d0bfe67c96fd4d1e16d11cd116813bbcda3eaed3cf69e13e", func := "example.com/vouchsafe/vouchsafe/internal/jsontext.LawS1396CSpans", spec := "lawS1396CSpans", inPlace := ["internal/bytealg.IndexByteString"], apart := false }
def LawS1396CSpansSaid : Prop := lawS1396CSpansRow.holds Yba.pinned (OpenSpec.ofChange lawS1396CSpansSpec)

/-- ITS FALSE NEIGHBOUR: 'it returns false'. Refute it at one input. -/
def lawS1396CSpansWrong : ChangeSpec := { name := "lawS1396CSpans", fn := fun _ => fun
  | [d1, d2, d3, d4] => { results := [.lit (.bool false)], args := [d1, d2, d3, d4] }
  | _ => none }
def LawS1396CSpansWrongFalsely : Prop := lawS1396CSpansRow.holds Yba.pinned (OpenSpec.ofChange lawS1396CSpansWrong)

/-- 'jsontext.LawS1396CRaw': WHATEVER THE INPUT: true; the input reads as it did. -/
def lawS1396CRawSpec : ChangeSpec := { name := "lawS1396CRaw", fn := fun _ => fun
  | [d1, d2, d3, d4] => { results := [.lit (.bool true)], args := [d1, d2, d3, d4] }
  | _ => none }
def lawS1396CRawRow : OpenClaim := { program := "ybulkabws", sum := "c79e08f21eb1c367d0bfe67c96fd4d1e16d11cd116813bbcda3eaed3cf69e13e", func := "example.com/vouchsafe/vouchsafe/internal/jsontext.LawS1396CRaw", spec := "lawS1396CRaw", inPlace := ["internal/bytealg.IndexByteString"], apart := false }
def LawS1396CRawSaid : Prop := lawS1396CRawRow.holds Yba.pinned (OpenSpec.ofChange lawS1396CRawSpec)

/-- ITS FALSE NEIGHBOUR: 'it returns false'. Refute it at one input. -/
def lawS1396CRawWrong : ChangeSpec := { name := "lawS1396CRaw", fn := fun _ => fun
  | [d1, d2, d3, d4] => { results := [.lit (.bool false)], args := [d1, d2, d3, d4] }
  | _ => none }
def LawS1396CRawWrongFalsely : Prop := lawS1396CRawRow.holds Yba.pinned (OpenSpec.ofChange lawS1396CRawWrong)

end Rows
end Go.Proofs.Ybulkabws

/-
  No cell of these rows narrows 'for every input' (looked for: loops, veiled, ifaces, maps, wideKeys, modest, calm, conditions, laid).
  DERIVED. THE GIVEN ROWS OF THIS SEAT. 3 by the template 'for every input the law returns true; each argument reads behind the call as it read before'; 0 by the template 'total and deterministic' (their statements: YbulkdwtiTotals.lean).
  GIVEN WITH THE SEED: the statements are not yours to turn. If you find one false, say at which input.
  Laid BY PROGRAM, IN A SANDBOX (cutbox-rows.mjs): the forced cells as the released guide's own fill.sh prints them over the translation bf2a9e0f8f304ab1… (all of the seat's roots in one cut). By AI agents, Wed Nov 11 2026. No macro, syntax, notation, axiom, sorry.
-/
import Derived.Test.YbulkdwtiChecked
import GoSem.Claim
import GoSem.ClaimJoined
import GoSem.ClaimMapViews
import Derived.JoinedTies
import Derived.KernelRfl
namespace Go.Proofs.Ybulkdwti
/- THE CELL 'sum', in the pinned program and in every row, IS THE sha256 OF THE DUMP (.gsa) THAT YbulkdwtiProg.lean LOADS. Nothing in Lean hashes anything: it is a label: what it is worth is what the hold of that sum in a sandbox is worth. -/
noncomputable def Yba.pinned : Pinned := { name := "ybulkdwti", sum := "bf2a9e0f8f304ab13e2613af0de0f7ed8e86adf42420060cbdada1c36b231f81", checked := Yba.checked }
namespace Rows
def none {H : Type} : Left H := { results := [], args := [] }

/-- 'learner.LawS6170AWhole': WHATEVER THE INPUT: true; the input reads as it did. -/
def lawS6170AWholeSpec : ChangeSpec := { name := "lawS6170AWhole", fn := fun _ => fun
  | [d1, d2, d3] => { results := [.lit (.bool true)], args := [d1, d2, d3] }
  | _ => none }
def lawS6170AWholeRow : OpenClaim := { program := "ybulkdwti", sum := "bf2a9e0f8f304ab13e2613af0de0f7ed8e86adf42420060cbdada1c36b231f81", func := "example.com/ballotproof/ballotproof/pkg/learner.LawS6170AWhole", spec := "lawS6170AWhole", plainKeys := false, apart := false }
def LawS6170AWholeSaid : Prop := lawS6170AWholeRow.holds Yba.pinned (OpenSpec.ofChange lawS6170AWholeSpec)

/-- ITS FALSE NEIGHBOUR: 'it returns false'. Refute it at one input. -/
def lawS6170AWholeWrong : ChangeSpec := { name := "lawS6170AWhole", fn := fun _ => fun
  | [d1, d2, d3] => { results := [.lit (.bool false)], args := [d1, d2, d3] }
  | _ => none }
def LawS6170AWholeWrongFalsely : Prop := lawS6170AWholeRow.holds Yba.pinned (OpenSpec.ofChange lawS6170AWholeWrong)

/-- 'audit.LawS6170BWhole': WHATEVER THE INPUT: true; the input reads as it did. -/
def lawS6170BWholeSpec : ChangeSpec := { name := "lawS6170BWhole", fn := fun _ => fun
  | [d1, d2, d3, d4, d5] => { results := [.lit (.bool true)], args := [d1, d2, d3, d4, d5] }
  | _ => none }
def lawS6170BWholeRow : OpenClaim := { program := "ybulkdwti", sum := "bf2a9e0f8f304ab13e2613af0de0f7ed8e86adf42420060cbdada1c36b231f81", func := "example.com/ballotproof/ballotproof/pkg/audit.LawS6170BWhole", spec := "lawS6170BWhole", plainKeys := false, apart := false }
def LawS6170BWholeSaid : Prop := lawS6170BWholeRow.holds Yba.pinned (OpenSpec.ofChange lawS6170BWholeSpec)

/-- ITS FALSE NEIGHBOUR: 'it returns false'. Refute it at one input. -/
def lawS6170BWholeWrong : ChangeSpec := { name := "lawS6170BWhole", fn := fun _ => fun
  | [d1, d2, d3, d4, d5] => { results := [.lit (.bool false)], args := [d1, d2, d3, d4, d5] }
  | _ => none }
def LawS6170BWholeWrongFalsely : Prop := lawS6170BWholeRow.holds Yba.pinned (OpenSpec.ofChange lawS6170BWholeWrong)

/-- 'learner.LawS6170CWhole': WHATEVER THE INPUT: true; the input reads as it did. -/
def lawS6170CWholeSpec : ChangeSpec := { name := "lawS6170CWhole", fn := fun _ => fun
  | [d] => { results := [.lit (.bool true)], args := [d] }
  | _ => none }
def lawS6170CWholeRow : OpenClaim := { program := "ybulkdwti", sum := "bf2a9e0f8f304ab13e2613af0de0f7ed8e86adf42420060cbdada1c36b231f81", func := "example.com/ballotproof/ballotproof/pkg/learner.LawS6170CWhole", spec := "lawS6170CWhole", plainKeys := false, apart := false }
def LawS6170CWholeSaid : Prop := lawS6170CWholeRow.holds Yba.pinned (OpenSpec.ofChange lawS6170CWholeSpec)

/-- ITS FALSE NEIGHBOUR: 'it returns false'. Refute it at one input. -/
def lawS6170CWholeWrong : ChangeSpec := { name := "lawS6170CWhole", fn := fun _ => fun
  | [d] => { results := [.lit (.bool false)], args := [d] }
  | _ => none }
def LawS6170CWholeWrongFalsely : Prop := lawS6170CWholeRow.holds Yba.pinned (OpenSpec.ofChange lawS6170CWholeWrong)

end Rows
end Go.Proofs.Ybulkdwti

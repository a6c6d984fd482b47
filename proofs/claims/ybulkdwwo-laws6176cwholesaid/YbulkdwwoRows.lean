/-
  No cell of these rows narrows 'for every input' (looked for: loops, veiled, ifaces, maps, wideKeys, modest, calm, conditions, laid).
  DERIVED. THE GIVEN ROWS OF THIS SEAT. 2 by the template 'for every input the law returns true; each argument reads behind the call as it read before'; 0 by the template 'total and deterministic' (their statements: YbulkdwwoTotals.lean).
  GIVEN WITH THE SEED: the statements are not yours to turn. If you find one false, say at which input.
  Laid BY PROGRAM, IN A SANDBOX (cutbox-rows.mjs): the forced cells as the released guide's own fill.sh prints them over the translation e303d73615e5f522… (all of the seat's roots in one cut). By AI agents, Wed Nov 11 2026. No macro, syntax, notation, axiom, sorry.
-/
import Derived.Test.YbulkdwwoChecked
import GoSem.Claim
import GoSem.ClaimJoined
import GoSem.ClaimMapViews
import Derived.JoinedTies
import Derived.KernelRfl
namespace Go.Proofs.Ybulkdwwo
/- THE CELL 'sum', in the pinned program and in every row, IS THE sha256 OF THE DUMP (.gsa) THAT YbulkdwwoProg.lean LOADS. Nothing in Lean hashes anything: it is a label: what it is worth is what the hold of that sum in a sandbox is worth. -/
noncomputable def Yba.pinned : Pinned := { name := "ybulkdwwo", sum := "e303d73615e5f522a0a477585affc72edca6da28553d94949692d39259fc9bc1", checked := Yba.checked }
namespace Rows
def none {H : Type} : Left H := { results := [], args := [] }

/-- 'tailrace.LawS6176BWhole': WHATEVER THE INPUT: true; the input reads as it did. -/
def lawS6176BWholeSpec : ChangeSpec := { name := "lawS6176BWhole", fn := fun _ => fun
  | [d1, d2, d3, d4, d5, d6, d7, d8, d9, d10, d11] => { results := [.lit (.bool true)], args := [d1, d2, d3, d4, d5, d6, d7, d8, d9, d10, d11] }
  | _ => none }
def lawS6176BWholeRow : OpenClaim := { program := "ybulkdwwo", sum := "e303d73615e5f522a0a477585affc72edca6da28553d94949692d39259fc9bc1", func := "example.com/tailrace/tailrace.LawS6176BWhole", spec := "lawS6176BWhole", unfollowed := true, recurses := true, plainKeys := false, apart := false }
def LawS6176BWholeSaid : Prop := lawS6176BWholeRow.holds Yba.pinned (OpenSpec.ofChange lawS6176BWholeSpec)

/-- ITS FALSE NEIGHBOUR: 'it returns false'. Refute it at one input. -/
def lawS6176BWholeWrong : ChangeSpec := { name := "lawS6176BWhole", fn := fun _ => fun
  | [d1, d2, d3, d4, d5, d6, d7, d8, d9, d10, d11] => { results := [.lit (.bool false)], args := [d1, d2, d3, d4, d5, d6, d7, d8, d9, d10, d11] }
  | _ => none }
def LawS6176BWholeWrongFalsely : Prop := lawS6176BWholeRow.holds Yba.pinned (OpenSpec.ofChange lawS6176BWholeWrong)

/-- 'tailrace.LawS6176CWhole': WHATEVER THE INPUT: true; the input reads as it did. -/
def lawS6176CWholeSpec : ChangeSpec := { name := "lawS6176CWhole", fn := fun _ => fun
  | [d] => { results := [.lit (.bool true)], args := [d] }
  | _ => none }
def lawS6176CWholeRow : OpenClaim := { program := "ybulkdwwo", sum := "e303d73615e5f522a0a477585affc72edca6da28553d94949692d39259fc9bc1", func := "example.com/tailrace/tailrace.LawS6176CWhole", spec := "lawS6176CWhole", plainKeys := false, apart := false }
def LawS6176CWholeSaid : Prop := lawS6176CWholeRow.holds Yba.pinned (OpenSpec.ofChange lawS6176CWholeSpec)

/-- ITS FALSE NEIGHBOUR: 'it returns false'. Refute it at one input. -/
def lawS6176CWholeWrong : ChangeSpec := { name := "lawS6176CWhole", fn := fun _ => fun
  | [d] => { results := [.lit (.bool false)], args := [d] }
  | _ => none }
def LawS6176CWholeWrongFalsely : Prop := lawS6176CWholeRow.holds Yba.pinned (OpenSpec.ofChange lawS6176CWholeWrong)

end Rows
end Go.Proofs.Ybulkdwwo

/-
  No cell of these rows narrows 'for every input' (looked for: loops, veiled, ifaces, maps, wideKeys, modest, calm, conditions, laid).
  DERIVED. THE GIVEN ROWS OF THIS SEAT. 2 by the template 'for every input the law returns true; each argument reads behind the call as it read before'; 0 by the template 'total and deterministic' (their statements: YbulkdwxcTotals.lean).
  GIVEN WITH THE SEED: the statements are not yours to turn. If you find one false, say at which input.
  Laid BY PROGRAM, IN A SANDBOX (cutbox-rows.mjs): the forced cells as the released guide's own fill.sh prints them over the translation 9dc77886cace7c59… (all of the seat's roots in one cut). By AI agents, Wed Nov 11 2026. No macro, syntax, notation, axiom, sorry.
-/
import Derived.Test.YbulkdwxcChecked
import GoSem.Claim
import GoSem.ClaimJoined
import GoSem.ClaimMapViews
import Derived.JoinedTies
import Derived.KernelRfl
namespace Go.Proofs.Ybulkdwxc
/- THE CELL 'sum', in the pinned program and in every row, IS THE sha256 OF THE DUMP (.gsa) THAT YbulkdwxcProg.lean LOADS. Nothing in Lean hashes anything: it is a label: what it is worth is what the hold of that sum in a sandbox is worth. -/
noncomputable def Yba.pinned : Pinned := { name := "ybulkdwxc", sum := "9dc77886cace7c59f5ea1c04ecd3baf7581ea4037ad6c97d9910df9873e549c0", checked := Yba.checked }
namespace Rows
def none {H : Type} : Left H := { results := [], args := [] }

/-- 'ringhold.LawS6177AWhole': WHATEVER THE INPUT: true; the input reads as it did. -/
def lawS6177AWholeSpec : ChangeSpec := { name := "lawS6177AWhole", fn := fun _ => fun
  | [d1, d2, d3, d4, d5, d6, d7] => { results := [.lit (.bool true)], args := [d1, d2, d3, d4, d5, d6, d7] }
  | _ => none }
def lawS6177AWholeRow : OpenClaim := { program := "ybulkdwxc", sum := "9dc77886cace7c59f5ea1c04ecd3baf7581ea4037ad6c97d9910df9873e549c0", func := "example.com/ringhold/ringhold.LawS6177AWhole", spec := "lawS6177AWhole", plainKeys := false, apart := false }
def LawS6177AWholeSaid : Prop := lawS6177AWholeRow.holds Yba.pinned (OpenSpec.ofChange lawS6177AWholeSpec)

/-- ITS FALSE NEIGHBOUR: 'it returns false'. Refute it at one input. -/
def lawS6177AWholeWrong : ChangeSpec := { name := "lawS6177AWhole", fn := fun _ => fun
  | [d1, d2, d3, d4, d5, d6, d7] => { results := [.lit (.bool false)], args := [d1, d2, d3, d4, d5, d6, d7] }
  | _ => none }
def LawS6177AWholeWrongFalsely : Prop := lawS6177AWholeRow.holds Yba.pinned (OpenSpec.ofChange lawS6177AWholeWrong)

/-- 'ringhold.LawS6177CWhole': WHATEVER THE INPUT: true; the input reads as it did. -/
def lawS6177CWholeSpec : ChangeSpec := { name := "lawS6177CWhole", fn := fun _ => fun
  | [d1, d2, d3, d4, d5, d6, d7, d8] => { results := [.lit (.bool true)], args := [d1, d2, d3, d4, d5, d6, d7, d8] }
  | _ => none }
def lawS6177CWholeRow : OpenClaim := { program := "ybulkdwxc", sum := "9dc77886cace7c59f5ea1c04ecd3baf7581ea4037ad6c97d9910df9873e549c0", func := "example.com/ringhold/ringhold.LawS6177CWhole", spec := "lawS6177CWhole", unfollowed := true, recurses := true, plainKeys := false, apart := false }
def LawS6177CWholeSaid : Prop := lawS6177CWholeRow.holds Yba.pinned (OpenSpec.ofChange lawS6177CWholeSpec)

/-- ITS FALSE NEIGHBOUR: 'it returns false'. Refute it at one input. -/
def lawS6177CWholeWrong : ChangeSpec := { name := "lawS6177CWhole", fn := fun _ => fun
  | [d1, d2, d3, d4, d5, d6, d7, d8] => { results := [.lit (.bool false)], args := [d1, d2, d3, d4, d5, d6, d7, d8] }
  | _ => none }
def LawS6177CWholeWrongFalsely : Prop := lawS6177CWholeRow.holds Yba.pinned (OpenSpec.ofChange lawS6177CWholeWrong)

end Rows
end Go.Proofs.Ybulkdwxc

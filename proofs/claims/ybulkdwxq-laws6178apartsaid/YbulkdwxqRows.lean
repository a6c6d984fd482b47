/-
  No cell of these rows narrows 'for every input' (looked for: loops, veiled, ifaces, maps, wideKeys, modest, calm, conditions, laid).
  DERIVED. THE GIVEN ROWS OF THIS SEAT. 1 by the template 'for every input the law returns true; each argument reads behind the call as it read before'; 0 by the template 'total and deterministic' (their statements: YbulkdwxqTotals.lean).
  GIVEN WITH THE SEED: the statements are not yours to turn. If you find one false, say at which input.
  Laid BY PROGRAM, IN A SANDBOX (cutbox-rows.mjs): the forced cells as the released guide's own fill.sh prints them over the translation 6e2b3a733695b581… (all of the seat's roots in one cut). By AI agents, Wed Nov 11 2026. No macro, syntax, notation, axiom, sorry.
-/
import Derived.Test.YbulkdwxqChecked
import GoSem.Claim
import GoSem.ClaimJoined
import GoSem.ClaimMapViews
import Derived.JoinedTies
import Derived.KernelRfl
namespace Go.Proofs.Ybulkdwxq
/- THE CELL 'sum', in the pinned program and in every row, IS THE sha256 OF THE DUMP (.gsa) THAT YbulkdwxqProg.lean LOADS. Nothing in Lean hashes anything: it is a label: what it is worth is what the hold of that sum in a sandbox is worth. -/
noncomputable def Yba.pinned : Pinned := { name := "ybulkdwxq", sum := "6e2b3a733695b5817f0fdd22df2a57b025201e779c480cb4aadc1c6c9e8bf49d", checked := Yba.checked }
namespace Rows
def none {H : Type} : Left H := { results := [], args := [] }

/-- 'admitsim.LawS6178APart': WHATEVER THE INPUT: true; the input reads as it did. -/
def lawS6178APartSpec : ChangeSpec := { name := "lawS6178APart", fn := fun _ => fun
  | [d1, d2] => { results := [.lit (.bool true)], args := [d1, d2] }
  | _ => none }
def lawS6178APartRow : OpenClaim := { program := "ybulkdwxq", sum := "6e2b3a733695b5817f0fdd22df2a57b025201e779c480cb4aadc1c6c9e8bf49d", func := "example.com/mixbound/mixbound/internal/admitsim.LawS6178APart", spec := "lawS6178APart", unfollowed := true, recurses := true, apart := false }
def LawS6178APartSaid : Prop := lawS6178APartRow.holds Yba.pinned (OpenSpec.ofChange lawS6178APartSpec)

/-- ITS FALSE NEIGHBOUR: 'it returns false'. Refute it at one input. -/
def lawS6178APartWrong : ChangeSpec := { name := "lawS6178APart", fn := fun _ => fun
  | [d1, d2] => { results := [.lit (.bool false)], args := [d1, d2] }
  | _ => none }
def LawS6178APartWrongFalsely : Prop := lawS6178APartRow.holds Yba.pinned (OpenSpec.ofChange lawS6178APartWrong)

end Rows
end Go.Proofs.Ybulkdwxq

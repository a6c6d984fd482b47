/-
  6178A: the comparison at equal orders.
-/
import Derived.Test.YbulkdwxqRows
import Derived.WalkKit
import Derived.ProofKit
import Derived.Below
import Derived.WalkSpells
import Derived.WalkLawsBesides
import Derived.BigQuiet
import Derived.Lib.QuietBelow
import Derived.Deep.DeepCutAuto
import Derived.Deep.CutBlock
import Derived.Deep.MidRow
import Derived.Deep.LoopGhost
import Derived.Deep.RegionHeld3
namespace Go.Proofs.Ybulkdwxq
open Go.RowKit Go.Sort

set_option maxRecDepth 100000 in
theorem nan_any (x : Int) (w : World) : Calls Yba.prog 14 #[.int .u64 x] w fun e w' => e = .returned (.bool false) ∧ w' = w := by
  go_enter Yba.func14, Yba.ntmps14
  go_wp2_with fail
  go_ret
  exact ⟨rfl, rfl⟩

set_option maxRecDepth 100000 in
theorem cmp_same (x : Int) (w : World) : Calls Yba.prog 10 #[.int .u64 x, .int .u64 x] w fun e w' => e = .returned (.int .i64 0) ∧ w' = w := by
  go_enter Yba.func10, Yba.ntmps10
  go_wp2_with (go_at_call 14; refine (nan_any x _).mono ?_; rintro e w2 ⟨rfl, rfl⟩)
  go_ret
  exact ⟨rfl, rfl⟩

/-- A suspect: the node, order 0, its run. -/
def sus (n : Int) (r : Value) : Array Value := #[.int .i64 n, .int .u64 0, r]

set_option maxRecDepth 100000 in
theorem less_any (n m : Int) (a b : Option Addr) (la ca lb cb : Nat) (w : World) : Calls Yba.prog 9 #[.agg (sus n (.slice a la ca)), .agg (sus m (.slice b lb cb))] w fun e w' => e = .returned (.int .i64 0) ∧ Below w.heap.size w w' := by
  have bw : Below w.heap.size w ((w.alloc (.cells (sus n (.slice a la ca)) 48)).alloc (.cells (sus m (.slice b lb cb)) 48)) := ((Below.refl _ _).alloc (Nat.le_refl _) _).alloc (by simp) _
  unfold sus at *
  go_enter Yba.func9, Yba.ntmps9
  go_wp2_with (go_at_call 10; refine (cmp_same 0 _).mono ?_; rintro e w2 ⟨rfl, rfl⟩)
  go_ret
  exact ⟨rfl, bw⟩
end Go.Proofs.Ybulkdwxq

import Derived.Test.YbulkdwtiRows
import Derived.WalkKit
import Derived.WalkSpells
import Derived.WalkLawsBesides
import Derived.BigQuiet
namespace Go.Proofs.Ybulkdwti
open Go.RowKit

set_option maxHeartbeats 400000 in
/-- slices.Equal of two rows of integers that hold the same numbers. -/
theorem equal_some (b o c b' o' c' n : Nat) (zs : List Int) (w : World) (hn : n ≤ 65536)
    (h1 : ∀ j, j < n → w.cell? ⟨b, o + j, none⟩ = some (.int .i64 (zs.getD j 0)))
    (h2 : ∀ j, j < n → w.cell? ⟨b', o' + j, none⟩ = some (.int .i64 (zs.getD j 0))) :
    Calls Yba.prog 10 #[.slice (some ⟨b, o, none⟩) n c, .slice (some ⟨b', o', none⟩) n c'] w fun e w' => e = .returned (.bool true) ∧ ∃ nq, w' = w.drewN nq := by
  go_enter Yba.func10, Yba.ntmps10
  go_wp2
  go_loopw [13] (fun i wr => ∃ k : Nat, k ≤ n ∧ i = .int .i64 k ∧ ∃ nq, wr = w.drewN nq) (fun i _ => n - (intOf i).toNat)
  case atStart => exact ⟨0, Nat.zero_le _, rfl, 0, rfl⟩
  case round =>
    obtain ⟨k, hk, rfl, nq, rfl⟩ := hrel
    by_cases hlt : k < n
    · have g1 := h1 k hlt
      have g2 := h2 k hlt
      clear h1 h2
      go_wp2
      go_quiet (fail)
      go_wp2
      go_roundw
      case rel => exact ⟨k + 1, by omega, by go_num, _, rfl⟩
      case measure => simp [intOf]; omega
    · go_wp2
      go_ret
      exact ⟨rfl, _, rfl⟩

/-- .. of two slices without an element. -/
theorem equal_none (a a' : Option Addr) (c c' : Nat) (w : World) :
    Calls Yba.prog 10 #[.slice a 0 c, .slice a' 0 c'] w fun e w' => e = .returned (.bool true) ∧ ∃ nq, w' = w.drewN nq := by
  go_enter Yba.func10, Yba.ntmps10
  go_wp2
  refine wp_loop_rounds 1 ?_
  rw [rounds_succ]
  go_wp2
  go_ret
  exact ⟨rfl, 0, rfl⟩
end Go.Proofs.Ybulkdwti

import Derived.Test.YbulkdwxcSub
import Derived.Deep.MidRow
import Derived.Maps.OwnSet
namespace Go.Proofs.Ybulkdwxc
open Go.RowKit

set_option maxRecDepth 100000 in
set_option maxHeartbeats 400000 in
theorem aat_any (ms : Int) (h : -2147483648 ≤ ms ∧ ms ≤ 2147483647) (w : World) :
    Calls Yba.prog 6 #[.int .i32 ms] w fun e w' => e = .returned (.agg #[.int .u64 (ms * 1000000 % 1000000000), .int .i64 (ms * 1000000 / 1000000000), .pointer none]) ∧ Below w.heap.size w w' := by
  go_enter Yba.func6, Yba.ntmps6
  go_wp2_with fail
  refine (add_any 0 0 (ms * 1000000) (by omega) (by omega) (by omega) (by omega) _).mono ?_
  rintro e w1 ⟨rfl, hb⟩
  have hz := hb.size
  have c0 : w1.cell? ⟨w.heap.size, 0, none⟩ = some (.int .u64 0) := (hb.cell (p := ⟨w.heap.size, 0, none⟩) (by simp)).trans (by go_simp)
  have c1 : w1.cell? ⟨w.heap.size, 1, none⟩ = some (.int .i64 0) := (hb.cell (p := ⟨w.heap.size, 1, none⟩) (by simp)).trans (by go_simp)
  have c2 : w1.cell? ⟨w.heap.size, 2, none⟩ = some (.pointer none) := (hb.cell (p := ⟨w.heap.size, 2, none⟩) (by simp)).trans (by go_simp)
  have f0 : ∀ j, w1.frozen? ⟨w.heap.size, j, none⟩ = false := fun j => (hb.frozen (p := ⟨w.heap.size, j, none⟩) (by simp)).trans (by go_simp)
  simp only [Int.zero_add]
  have bw : Below w.heap.size w w1 := ((Below.refl _ _).alloc (Nat.le_refl _) _).trans (hb.mono (by simp))
  go_wp2_with fail
  exact bodyPost_ret (v := .agg #[.int .u64 (ms * 1000000 % 1000000000), .int .i64 (ms * 1000000 / 1000000000), .pointer none]) (by simp [results, Yba.results6, go_sem, c0, c1, c2]) rfl ⟨rfl, ((bw.setCell (p := ⟨w.heap.size, 0, none⟩) (Nat.le_refl _) _).setCell (p := ⟨w.heap.size, 1, none⟩) (Nat.le_refl _) _).setCell (p := ⟨w.heap.size, 2, none⟩) (Nat.le_refl _) _⟩

end Go.Proofs.Ybulkdwxc

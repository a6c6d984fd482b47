import Derived.Test.YbulkdwxcLaws
namespace Go.Proofs.Ybulkdwxc
open Go.RowKit

/-- The zero Peer; the table that newLinkTable makes of it. -/
def peer0 : Array Value := #[.int .u8 0, .int .u8 0, .int .u8 0, .int .u8 0, .int .u8 0, .int .u8 0, .int .u8 0, .int .u8 0, .int .u8 0, .int .u8 0, .int .u8 0, .int .u8 0, .int .u8 0, .int .u8 0, .int .u8 0, .int .u8 0, .int .u64 0, .int .u64 0, .pointer none, .int .u16 0]
def tbl (tb : Nat) (r : Option Nat) : Array Value := #[.int .u8 0, .int .u8 0, .int .u8 0, .int .u8 0, .int .u8 0, .int .u8 0, .int .u8 0, .int .u8 0, .int .u8 0, .int .u8 0, .int .u8 0, .int .u8 0, .int .u8 0, .int .u8 0, .int .u8 0, .int .u8 0, .int .u64 0, .int .u64 0, .pointer none, .int .u16 0, .pointer (some ⟨tb, 0, none⟩), .map r, .slice none 0 0, .slice none 0 0, .int .u64 0, .slice none 0 0, .int .u64 1, .slice none 0 0, .slice none 0 0]

theorem build46 (w : World) : (Instr.build 46 #[]).run Yba.prog w = .ok (.agg peer0) w := by kernel_rfl
theorem build53 (tb : Nat) (r : Option Nat) (w : World) : (Instr.build 53 #[(0, .agg peer0), (1, .pointer (some ⟨tb, 0, none⟩)), (2, .map r), (7, .int .u64 1)]).run Yba.prog w = .ok (.agg (tbl tb r)) w := by kernel_rfl
theorem info46 : (Yba.prog.info? 46).map (·.size) = some 20 := by kernel_rfl
theorem info53 : (Yba.prog.info? 53).map (·.size) = some 29 := by kernel_rfl
theorem tbl_size (tb : Nat) (r : Option Nat) : (tbl tb r).size = 29 := rfl
theorem tbl_one (tb : Nat) (r : Option Nat) : (tbl tb r).all (·.oneCell') = true := by kernel_rfl
theorem peer0_size : peer0.size = 20 := rfl
theorem peer0_one : peer0.all (·.oneCell') = true := by kernel_rfl

set_option maxRecDepth 100000 in
set_option maxHeartbeats 400000 in
theorem table_any (tb : Nat) (r : Option Nat) (w : World) :
    Calls Yba.prog 5 #[.agg peer0, .pointer (some ⟨tb, 0, none⟩), .map r] w fun e w' => e = .returned (.agg (tbl tb r)) ∧ Below w.heap.size w w' := by
  go_enter Yba.func5, Yba.ntmps5
  go_upto_region 1 with fail
  generalize hZ : (#[Value.int IntKind.u8 0, _, _, _, _, _, _, _, _, _, _, _, _, _, _, _, _, _, _, _, _, _, _, _, _, _, _, _, _] : Array Value) = Z
  have hold : ((w.alloc (.cells peer0 46)).alloc (.cells Z 53)).heap[w.heap.size]? = some (.cells peer0 46) := al_old _ _ _ _ (al_new w _ _ rfl)
  have hZs : Z.size = 29 := by rw [← hZ]; rfl
  clear hZ
  go_wp2_with (first
    | (refine wpList_load_row (by rfl) 46 (.tmp 3) (by rfl) w.heap.size (by rfl) 46 peer0 (0, 0) _ hold Yba.underlying46 (by rfl) info46 ?_)
    | (refine wpList_build (by rfl) 53 #[(0, .tmp 7), (1, .tmp 8), (2, .tmp 9), (7, .const (.int .u64 1))] (by rfl) #[(0, .agg peer0), (1, .pointer (some ⟨tb, 0, none⟩)), (2, .map r), (7, .int .u64 1)] (by rfl) (.agg (tbl tb r)) (build53 tb r _) ?_)
    | (refine wpList_store_new (by rfl) 53 (.tmp 6) (.tmp 10) (by rfl) (w.alloc (.cells peer0 46)) Z (tbl tb r) 53 (w.heap.size + 1) (al_size _ _) (by rfl) (by rfl) (by rfl) hZs info53 (tbl_one tb r) ?_))
  exact bodyPost_ret (v := .agg (tbl tb r)) (results_cell_row Yba.results5 _ _ (w.heap.size + 1) 53 (tbl tb r) (0, 0) _ (by rfl) (al_new _ _ _ (al_size _ _).symm) Yba.underlying53 (by rfl) info53) rfl ⟨rfl, ((Below.refl _ _).alloc (Nat.le_refl _) _).alloc (by simp) _⟩

end Go.Proofs.Ybulkdwxc

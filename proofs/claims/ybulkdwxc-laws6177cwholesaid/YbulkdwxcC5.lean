/-
  6177C: zzs6177cmsg at ping's message.
-/
import Derived.Test.YbulkdwxcC4
namespace Go.Proofs.Ybulkdwxc
open Go.RowKit Go.Maps Go.Sort

theorem msg_range {w : World} {g : Nat} {a b c : Int} {fr : Nat × Nat} (h : w.heap[g]? = some (.cells (msgC a b c) 104 fr)) (o n : Nat) : w.rangeAt g o ((msgC a b c).toList.drop o |>.take n) :=
  range_of_block h o _ fun j v hv => by
    rw [List.getElem?_take] at hv
    split at hv
    · rw [List.getElem?_drop] at hv; rwa [← Array.getElem?_toList]
    · cases hv

theorem eqlnil50 (w : World) : (binOp .eql 50 (.slice none 0 0) (.slice none 0 0)).run Yba.prog w = .ok (.bool true) w := by kernel_rfl
theorem eqlnil48 (w : World) : (binOp .eql 48 (.slice none 0 0) (.slice none 0 0)).run Yba.prog w = .ok (.bool true) w := by kernel_rfl
theorem eqlnil100 (w : World) : (binOp .eql 100 (.slice none 0 0) (.slice none 0 0)).run Yba.prog w = .ok (.bool true) w := by kernel_rfl
theorem eqlnil49 (w : World) : (binOp .eql 49 (.slice none 0 0) (.slice none 0 0)).run Yba.prog w = .ok (.bool true) w := by kernel_rfl
theorem eqlnil61 (w : World) : (binOp .eql 61 (.slice none 0 0) (.slice none 0 0)).run Yba.prog w = .ok (.bool true) w := by kernel_rfl

set_option maxRecDepth 100000 in
set_option maxHeartbeats 6000000 in
theorem msg_true (gm : Nat) (rq lb dig : Int) (w : World) (hm : w.heap[gm]? = some (.cells (msgC rq lb dig) 104)) :
    Calls Yba.prog 14 #[.pointer (some ⟨gm, 0, none⟩), .int .u64 rq, .int .u64 lb, .int .u64 dig] w fun e w' => e = .returned (.bool true) ∧ w' = w := by
  have c0 : w.cell? ⟨gm, 0, none⟩ = some (.int .u8 8) := (cell_of_row _ _ _ _ _ _ hm).trans rfl
  have c58 : w.cell? ⟨gm, 58, none⟩ = some (.int .u64 rq) := (cell_of_row _ _ _ _ _ _ hm).trans rfl
  have c59 : w.cell? ⟨gm, 59, none⟩ = some (.int .u64 dig) := (cell_of_row _ _ _ _ _ _ hm).trans rfl
  have c60 : w.cell? ⟨gm, 60, none⟩ = some (.int .u64 0) := (cell_of_row _ _ _ _ _ _ hm).trans rfl
  have c61 : w.cell? ⟨gm, 61, none⟩ = some (.int .u64 lb) := (cell_of_row _ _ _ _ _ _ hm).trans rfl
  have c62 : w.cell? ⟨gm, 62, none⟩ = some (.int .u16 0) := (cell_of_row _ _ _ _ _ _ hm).trans rfl
  have c41 : w.cell? ⟨gm, 41, none⟩ = some (.slice none 0 0) := (cell_of_row _ _ _ _ _ _ hm).trans rfl
  have c63 : w.cell? ⟨gm, 63, none⟩ = some (.slice none 0 0) := (cell_of_row _ _ _ _ _ _ hm).trans rfl
  have c64 : w.cell? ⟨gm, 64, none⟩ = some (.slice none 0 0) := (cell_of_row _ _ _ _ _ _ hm).trans rfl
  have c97 : w.cell? ⟨gm, 97, none⟩ = some (.bool false) := (cell_of_row _ _ _ _ _ _ hm).trans rfl
  have c98 : w.cell? ⟨gm, 98, none⟩ = some (.string ⟨#[]⟩) := (cell_of_row _ _ _ _ _ _ hm).trans rfl
  have c99 : w.cell? ⟨gm, 99, none⟩ = some (.slice none 0 0) := (cell_of_row _ _ _ _ _ _ hm).trans rfl
  have c100 : w.cell? ⟨gm, 100, none⟩ = some (.slice none 0 0) := (cell_of_row _ _ _ _ _ _ hm).trans rfl
  have c101 : w.cell? ⟨gm, 101, none⟩ = some (.slice none 0 0) := (cell_of_row _ _ _ _ _ _ hm).trans rfl
  have r1 : w.rangeAt gm 1 peer0.toList := msg_range hm 1 20
  have r21 : w.rangeAt gm 21 peer0.toList := msg_range hm 21 20
  have r42 : w.rangeAt gm 42 (idv (idk 0)).toList := msg_range hm 42 16
  have r65 : w.rangeAt gm 65 (idv (idk 0) ++ idv (idk 0)).toList := msg_range hm 65 32
  have r102 : w.rangeAt gm 102 peer0.toList := msg_range hm 102 20
  have E1 := eql46z
  have E2 := eql102z
  have E3 := eql30 (idk_id (k := 0) rfl) (idk_id (k := 0) rfl)
  rw [show decide (idk 0 = idk 0) = true from rfl] at E3
  generalize hz : idv (idk 0) = Z at *
  generalize hz2 : Z ++ Z = Z2 at *
  have e1 : (Yba.prog.info? 46).map (·.size) = some peer0.toList.length := info46
  have e2 : (Yba.prog.info? 30).map (·.size) = some Z.toList.length := by rw [← hz]; exact info30l rfl
  have e3 : (Yba.prog.info? 102).map (·.size) = some Z2.toList.length := by rw [← hz2, ← hz]; kernel_rfl
  have B1 := build46
  have B2 := fun w => hz ▸ build30z w
  have B3 : ∀ w, (Instr.build 102 #[]).run Yba.prog w = .ok (.agg Z2) w := fun w => by rw [← hz2, ← hz]; exact build102z w
  clear hz hz2
  have N50 := eqlnil50
  have N48 := eqlnil48
  have N100 := eqlnil100
  have N49 := eqlnil49
  have N61 := eqlnil61
  go_enter Yba.func14, Yba.ntmps14
  go_upto_region 3 with fail
  refine wp_region_lit ?_
  repeat (first
    | (refine wpList_load_want (by rfl) 46 (.tmp 43) (by rfl) gm 1 (by rfl) peer0.toList _ r1 Yba.underlying46 (by rfl) e1 ?_; go_frame)
    | (refine wpList_load_want (by rfl) 46 (.tmp 51) (by rfl) gm 21 (by rfl) peer0.toList _ r21 Yba.underlying46 (by rfl) e1 ?_; go_frame)
    | (refine wpList_load_want (by rfl) 46 (.tmp 145) (by rfl) gm 102 (by rfl) peer0.toList _ r102 Yba.underlying46 (by rfl) e1 ?_; go_frame)
    | (refine wpList_load_want (by rfl) 30 (.tmp 66) (by rfl) gm 42 (by rfl) Z.toList _ r42 Yba.underlying30 (by rfl) e2 ?_; go_frame)
    | (refine wpList_load_want (by rfl) 102 (.tmp 102) (by rfl) gm 65 (by rfl) Z2.toList _ r65 Yba.underlying102 (by rfl) e3 ?_; go_frame)
    | (refine wpList_build_want (by rfl) 46 (by rfl) (.agg peer0) (B1 _) ?_; go_frame)
    | (refine wpList_build_want (by rfl) 30 (by rfl) (.agg Z) (B2 _) ?_; go_frame)
    | (refine wpList_build_want (by rfl) 102 (by rfl) (.agg Z2) (B3 _) ?_; go_frame)
    | go_values | go_skip | go_guarded | go_step | go_upon | go_back)
  go_wp2_with fail
  go_ret
  exact ⟨rfl, rfl⟩
end Go.Proofs.Ybulkdwxc

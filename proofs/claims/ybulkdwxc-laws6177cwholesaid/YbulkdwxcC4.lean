/-
  6177C: zzs6177cpend at two equal values; zzs6177cmsg at ping's message.
-/
import Derived.Test.YbulkdwxcC3
namespace Go.Proofs.Ybulkdwxc
open Go.RowKit Go.Maps Go.Sort

theorem info46p : ∃ j, Yba.prog.info? 46 = some j := by
  cases hj : Yba.prog.info? 46 with
  | none => have := info46; rw [hj] at this; cases this
  | some j => exact ⟨j, rfl⟩
theorem ptr87_neq (a : Addr) (w : World) : (binOp .neq 87 (.pointer (some a)) (.pointer (some a))).run Yba.prog w = .ok (.bool false) w := by
  obtain ⟨j, hj⟩ := info46p
  have h : ∀ d : Nat, (Op.equalIn (d + 1) 87 (.pointer (some a)) (.pointer (some a))).run Yba.prog w = .ok true w := fun d => by
    simp [Op.equalIn, run_underlying Yba.underlying87, sizeOf, typeInfo, hj, run_sameAddr_same]
  simp only [binOp]
  simp [Op.equal, Op.maxDepth, h 9999]

set_option maxRecDepth 100000 in
theorem neq29_same (n s : Int) (w : World) : (binOp .neq 29 (.agg #[.int .u64 n, .int .i64 s, .pointer none]) (.agg #[.int .u64 n, .int .i64 s, .pointer none])).run Yba.prog w = .ok (.bool false) w := by
  have hp := fun d w => run_equalIn_pointer_nil (P := Yba.prog) w d
  go_simp

set_option maxRecDepth 100000 in
set_option maxHeartbeats 1000000 in
theorem pend_same (q n s : Int) (rt : Nat) (w : World) :
    Calls Yba.prog 15 #[.agg #[.int .u64 q, .int .u64 n, .int .i64 s, .pointer none, .slice (some ⟨rt, 0, none⟩) 1 1], .agg #[.int .u64 q, .int .u64 n, .int .i64 s, .pointer none, .slice (some ⟨rt, 0, none⟩) 1 1]] w
      fun e w' => e = .returned (.bool true) ∧ Below w.heap.size w w' := by
  have E1 := neq29_same n s
  have E2 := ptr87_neq ⟨rt, 0, none⟩
  have bb : ∀ a b m, Below w.heap.size w (((w.alloc a).alloc b).drewN m) := fun a b m => by
    have h := ((Below.refl w.heap.size w).alloc (Nat.le_refl _) a).alloc (by simp) b
    exact ⟨h.os, h.tape, h.output, h.size, h.block⟩
  go_enter Yba.func15, Yba.ntmps15
  go_wp2_with fail
  go_quiet (fail)
  go_wp2_with fail
  go_ret
  exact ⟨rfl, bb _ _ _⟩

section
variable {P : Program} {w : World} {ops : Array Oper} {rest : List Oper} {o : Oper} {a : Act} {Q : Exit → Act → World → Prop}
/-- A load of many cells, a build: GUARDED ('&&'), the guard true. -/
theorem wpList_load_want (hw : Region.wanted o (yielded ops a.tmps) = true) (ty : TypeId) (x : Operand) (ho : o.op = .load ty x) (b of : Nat) (hx : a.eval x = .pointer (some ⟨b, of, none⟩)) (cs : List Value) (d : TypeDesc) (hc : w.rangeAt b of cs)
    (hu : P.underlying ty = some d) (hd : d.isRow = true) (hi : (P.info? ty).map (·.size) = some cs.length) (h : wpList P ops Q rest (a.put o.dst (.agg cs.toArray)) w) : wpList P ops Q (o :: rest) a w :=
  BigFrame.wpList_want hw fun _ hK => wp_load_mid ty x ho b of hx cs d hc hu hd hi (hK _ _ h)
theorem wpList_build_want (hw : Region.wanted o (yielded ops a.tmps) = true) (t : TypeId) (hop : o.op = .build t #[]) (v : Value) (hrun : (Instr.build t #[]).run P w = .ok v w) (h : wpList P ops Q rest (a.put o.dst v) w) : wpList P ops Q (o :: rest) a w := by
  refine BigFrame.wpList_want hw fun K hK => ?_
  unfold Oper.wp
  simp only [execOp, hop, Array.map_empty, hrun, Sem.run_bind, Result.andThen_ok, Sem.run_pure]
  exact hK _ _ h
end

theorem equalIn30z (w : World) : (Op.equalIn 9999 30 (.agg (idv (idk 0))) (.agg (idv (idk 0)))).run Yba.prog w = .ok true w := equalIn_same (idk_id rfl) w

set_option maxRecDepth 100000 in
theorem eql46z (w : World) : (binOp .eql 46 (.agg peer0) (.agg peer0)).run Yba.prog w = .ok (.bool true) w := by
  have hp := fun d w => run_equalIn_pointer_nil (P := Yba.prog) w d
  have he := equalIn30z
  simp only [idv, peer0, idk, List.map_cons, List.map_nil] at he ⊢
  go_simp
set_option maxRecDepth 100000 in
theorem eql102z (w : World) : (binOp .eql 102 (.agg (idv (idk 0) ++ idv (idk 0))) (.agg (idv (idk 0) ++ idv (idk 0)))).run Yba.prog w = .ok (.bool true) w := by
  have he := equalIn30z
  simp only [idv, idk, List.map_cons, List.map_nil] at he ⊢
  go_simp
theorem build30z (w : World) : (Instr.build 30 #[]).run Yba.prog w = .ok (.agg (idv (idk 0))) w := by kernel_rfl
theorem build102z (w : World) : (Instr.build 102 #[]).run Yba.prog w = .ok (.agg (idv (idk 0) ++ idv (idk 0))) w := by kernel_rfl
end Go.Proofs.Ybulkdwxc

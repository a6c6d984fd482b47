/-
  6178A: the insertion sort at equal orders: nothing turns.
-/
import Derived.Test.YbulkdwxqS1
namespace Go.Proofs.Ybulkdwxq
open Go.RowKit Go.Sort

theorem below_more {B : Nat} {w w' w'' : World} (h : Below B w w') (hB : B ≤ w.heap.size) (k : Below w'.heap.size w' w'') : Below B w w'' := h.trans (k.mono (by have := h.size; omega))
theorem rangeAt_below {B : Nat} {w w' : World} {b o : Nat} {cs : List Value} (h : w.rangeAt b o cs) (k : Below B w w') (hb : b < B) : w'.rangeAt b o cs :=
  fun j v hv => (k.cell (p := ⟨b, o + j, none⟩) hb).trans (h j v hv)
theorem info48 (n : Int) (r : Value) : (Yba.prog.info? 48).map (·.size) = some (sus n r).toList.length := by kernel_rfl
theorem size48 (w : World) : (sizeOf 48).run Yba.prog w = .ok 3 w := by kernel_rfl
/-- THE SUSPECTS: n of them at g, all of order 0. -/
structure Sus (w : World) (g n : Nat) (V : Nat → Int) (ra : Nat → Option Addr) (rl rc : Nat → Nat) : Prop where
  lt : g < w.heap.size
  at_ : ∀ j, j < n → w.rangeAt g (j * 3) (sus (V j) (.slice (ra j) (rl j) (rc j))).toList
section
variable {w w' : World} {g n cap : Nat} {V : Nat → Int} {ra : Nat → Option Addr} {rl rc : Nat → Nat}
theorem Sus.below (h : Sus w g n V ra rl rc) (b : Below w.heap.size w w') : Sus w' g n V ra rl rc :=
  ⟨by have := h.lt; have := b.size; omega, fun j hj => rangeAt_below (h.at_ j hj) b h.lt⟩
theorem Sus.load (h : Sus w g n V ra rl rc) {j : Nat} (hj : j < n) : (Instr.loadAt 48 (.pointer (some ⟨g, j * 3, none⟩))).run Yba.prog w = .ok (.agg (sus (V j) (.slice (ra j) (rl j) (rc j)))) w :=
  run_loadAt_mid w g (j * 3) 48 _ _ (h.at_ j hj) Yba.underlying48 rfl (info48 _ _)
theorem index45 {g n cap : Nat} {i : Int} {j : Nat} (hi : i = (j : Int)) (hj : j < n) (wx : World) : (Instr.indexAt 45 (.slice (some ⟨g, 0, none⟩) n cap) (.int .i64 i)).run Yba.prog wx = .ok (.pointer (some ⟨g, j * 3, none⟩)) wx := by
  subst hi
  have he : Yba.prog.elem 45 = 48 := by kernel_rfl
  rw [run_indexAt_slice wx 45 _ _ _ _ _ (by rw [he]; exact Yba.underlying45), he, if_pos ⟨by omega, by omega⟩, size48]
  simp [Result.andThen, WideShapes.add_plain]
end
/-- A load of many cells in a region that draws its order. -/
theorem quiet_load {P : Program} {C : World → Prop} {K : Act → Prop} {o : Oper} {a : Act} (ty : TypeId) (x : Operand) (hop : o.op = .load ty x) (p v : Value) (hx : a.eval x = p) (hrun : ∀ w, C w → (Instr.loadAt ty p).run P w = .ok v w) (hk : K (a.put o.dst v)) : o.quiet P a C K :=
  ⟨v, fun w hw => by unfold Oper.quietAt; simp only [execOp, hop, hx, hrun w hw, Sem.run_bind, Result.andThen_ok, Sem.run_pure]; exact ⟨rfl, rfl⟩, hk⟩

set_option maxRecDepth 100000 in
set_option maxHeartbeats 1000000 in
theorem insertion_any (g n cap a b : Nat) (V : Nat → Int) (ra : Nat → Option Addr) (rl rc : Nat → Nat) (hb : b ≤ n) (hn : n ≤ 1048576) (ha : a ≤ 1048576) (w : World) (h : Sus w g n V ra rl rc) :
    Calls Yba.prog 15 #[.slice (some ⟨g, 0, none⟩) n cap, .int .i64 a, .int .i64 b, .func (.func 9) #[] #[]] w fun e w' => e = .returned (.tuple #[]) ∧ Below w.heap.size w w' := by
  have HS : Hid _ := h
  clear h
  go_enter Yba.func15, Yba.ntmps15
  go_wp2_with fail
  go_loopg [8, 9] (b - (a + 1)) (fun k s _ wr => ∃ i : Nat, a + 1 ≤ i ∧ k = b - i ∧ s = .int .i64 i ∧ Hid (Below w.heap.size w wr))
  case atStart => exact ⟨a + 1, Nat.le_refl _, rfl, by go_num, Below.refl _ _⟩
  case round =>
    obtain ⟨i, hi, rfl, rfl, HB⟩ := hrel
    by_cases hlt : i < b
    · have hlt' : (i : Int) < (b : Int) := by omega
      obtain ⟨j, hj⟩ : ∃ j, j + 1 = i := ⟨i - 1, by omega⟩
      have hS2 := HS.out.below HB.out
      have X1 := index45 (g := g) (n := n) (cap := cap) (i := (i : Int)) (j := i) rfl (by omega)
      have X2 := index45 (g := g) (n := n) (cap := cap) (i := (i : Int) - 1) (j := j) (by omega) (by omega)
      have hja : (a : Int) < (i : Int) := by omega
      have LD1 : ∀ wx, (∃ p : Regrown, wx = grow (redrawn wr p.d) p.os) → (Instr.loadAt 48 (.pointer (some ⟨g, i * 3, none⟩))).run Yba.prog wx = .ok (.agg (sus (V i) (.slice (ra i) (rl i) (rc i)))) wx := by
        rintro _ ⟨q, rfl⟩; exact (hS2.below (below_regrown wr q.d q.os)).load (by omega)
      have LD2 : ∀ wx, (∃ p : Regrown, wx = grow (redrawn wr p.d) p.os) → (Instr.loadAt 48 (.pointer (some ⟨g, j * 3, none⟩))).run Yba.prog wx = .ok (.agg (sus (V j) (.slice (ra j) (rl j) (rc j)))) wx := by
        rintro _ ⟨q, rfl⟩; exact (hS2.below (below_regrown wr q.d q.os)).load (by omega)
      have C1 := fun d os => Calls.regrown_of (less_any (V i) (V j) (ra i) (ra j) (rl i) (rc i) (rl j) (rc j) (grow (redrawn wr d) os))
      have FE : ∀ d os, Hid (Below w.heap.size w (grow (redrawn wr d) os)) := fun d os => below_more HB.out (Nat.le_refl _) (below_regrown wr d os)
      generalize sus (V i) (.slice (ra i) (rl i) (rc i)) = A1 at LD1 C1
      generalize sus (V j) (.slice (ra j) (rl j) (rc j)) = A2 at LD2 C1
      clear hS2
      have HJ : Hid _ := hj
      clear hj
      go_wp2_with fail
      go_loopg [9] 0 (fun _ s wx => s = .int .i64 (i : Int) ∧ wx = wr)
      case atStart => exact ⟨rfl, rfl⟩
      case round =>
        obtain ⟨rfl, rfl⟩ := hrel
        go_upto_region 4 with fail
        refine wp_region_quiet_below (by kernel_rfl) (by kernel_rfl) ?_
        repeat (first
          | (go_big_quiet_want; refine quiet_load 48 (.tmp 25) (by rfl) (.pointer (some ⟨g, i * 3, none⟩)) (.agg A1) (by rfl) LD1 ?_; go_big_quiet_on; go_frame)
          | (go_big_quiet_want; refine quiet_load 48 (.tmp 30) (by rfl) (.pointer (some ⟨g, j * 3, none⟩)) (.agg A2) (by rfl) LD2 ?_; go_big_quiet_on; go_frame)
          | go_big_quiet_step (with_reducible exact C1 _ _))
        refine wpQuiet_nil ?_
        rintro _ ⟨⟨dq, oq⟩, rfl⟩
        have HB2 := FE dq oq
        clear C1 LD1 LD2 FE
        go_wp2_with fail
        go_roundg (b - (i + 1))
        case measure => omega
        case rel => exact ⟨i + 1, by omega, rfl, by go_num, HB2⟩
    · have hlt' : ¬ (i : Int) < (b : Int) := by omega
      go_wp2_with fail
      exact bodyPost_end (v := .tuple #[]) (by simp [results, Yba.results15, go_sem]) rfl ⟨rfl, HB.out⟩
end Go.Proofs.Ybulkdwxq

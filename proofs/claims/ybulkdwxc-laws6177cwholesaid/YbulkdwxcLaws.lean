/-
  The seat's own laws for values of many cells, taken whole: a build by its run, a store that fills the newest block, a store that fills a block; identifiers (sixteen bytes) as letters.
-/
import Derived.Test.YbulkdwxcA1
namespace Go.Proofs.Ybulkdwxc
open Go.RowKit Go.Maps

section
variable {P : Program} {w : World} {ops : Array Oper} {rest : List Oper} {o : Oper} {a : Act} {Q : Exit → Act → World → Prop}

theorem wpList_build (hg : o.guard = none) (t : TypeId) (parts : Array (Nat × Operand)) (hop : o.op = .build t parts) (vals : Array (Nat × Value)) (hv : parts.toList.map (fun p => (p.1, a.eval p.2)) = vals.toList) (v : Value)
    (hrun : (Instr.build t vals).run P w = .ok v w) (h : wpList P ops Q rest (a.put o.dst v) w) : wpList P ops Q (o :: rest) a w := by
  refine wpList_plain hg fun K hK => ?_
  unfold Oper.wp
  have e : (parts.map fun (i, x) => (i, a.eval x)) = vals := by
    apply Array.ext'
    rw [Array.toList_map]
    exact hv
  simp only [execOp, hop, e, hrun, Sem.run_bind, Result.andThen_ok, Sem.run_pure]
  exact hK _ _ h

theorem setCells_new (w1 : World) (Z C : Array Value) (t : TypeId) (hs : Z.size = C.size) : (w1.alloc (.cells Z t)).setCells w1.heap.size 0 C.toList = w1.alloc (.cells C t) := by
  have key : ∀ (k : Nat) (A : Array Value), A.size = C.size → k ≤ C.size → (∀ j, j < k → A[j]? = C[j]?) → (w1.alloc (.cells A t)).setCells w1.heap.size k (C.toList.drop k) = w1.alloc (.cells C t) := by
    intro k
    induction hk : C.size - k generalizing k with
    | zero =>
      intro A hA hkc hj
      have : k = C.size := by omega
      subst this
      have hAC : A = C := by
        apply Array.ext_getElem?
        intro i
        by_cases hi : i < C.size
        · exact hj i hi
        · rw [Array.getElem?_eq_none (by omega), Array.getElem?_eq_none (by omega)]
      rw [List.drop_eq_nil_of_le (by simp), World.setCells, hAC]
    | succ n ih =>
      intro A hA hkc hj
      have hlt : k < C.size := by omega
      rw [List.drop_eq_getElem_cons (by simpa using hlt), World.setCells]
      have hset : (w1.alloc (.cells A t)).setCell ⟨w1.heap.size, k, none⟩ C.toList[k] = w1.alloc (.cells (A.setIfInBounds k C.toList[k]) t) := by
        rw [World.setCell_alloc_at _ _ _ _ _ rfl]
      rw [hset]
      refine ih (k + 1) (by omega) _ (by simpa using hA) (by omega) ?_
      intro j hjk
      rw [Array.getElem?_setIfInBounds]
      by_cases e : k = j
      · subst e
        rw [if_pos rfl, if_pos (by omega)]
        simp [Array.getElem?_eq_getElem hlt]
      · rw [if_neg e]
        exact hj j (by omega)
  have := key 0 Z hs (Nat.zero_le _) (fun j hj => by omega)
  simpa using this

/-- A STORE THAT FILLS THE NEWEST BLOCK ('x := v', a struct result). -/
theorem wpList_store_new (hgd : o.guard = none) (ty : TypeId) (x y : Operand) (ho : o.op = .store ty x y) (w1 : World) (Z C : Array Value) (t : TypeId) (g : Nat) (hg : w1.heap.size = g) (hw : w = w1.alloc (.cells Z t))
    (hx : a.eval x = .pointer (some ⟨g, 0, none⟩)) (hy : a.eval y = .agg C) (hs : Z.size = C.size) (hi : (P.info? ty).map (·.size) = some C.size) (h1 : C.all (·.oneCell') = true)
    (h : wpList P ops Q rest (a.put o.dst undef) (w1.alloc (.cells C t))) : wpList P ops Q (o :: rest) a w := by
  subst hw
  subst hg
  refine wpList_store_mid hgd ty x y ho w1.heap.size 0 C hx hy ?_ hi h1 ?_
  · intro j hj
    have hb := heap_alloc_new w1 (.cells Z t)
    rw [Nat.zero_add, cell_of_row _ _ _ _ _ _ hb]
    exact ⟨by rw [Array.getElem?_eq_getElem (by omega)]; rfl, frozen_of_row _ _ _ _ _ hb⟩
  · rw [setCells_new w1 Z C t hs]; exact h
end

/-! The newest blocks, by short names. -/
theorem al_size (w : World) (o : Obj) : (w.alloc o).heap.size = w.heap.size + 1 := by
  show (w.heap.push o).size = _
  simp
theorem al_new (w : World) (o : Obj) (k : Nat) (h : k = w.heap.size) : (w.alloc o).heap[k]? = some o := by
  subst h
  show (w.heap.push o)[w.heap.size]? = _
  simp
theorem al_old (w : World) (o : Obj) (k : Nat) (x : Obj) (h : w.heap[k]? = some x) : (w.alloc o).heap[k]? = some x := by
  have hlt : k < w.heap.size := by
    rcases Nat.lt_or_ge k w.heap.size with h' | h'
    · exact h'
    · simp [Array.getElem?_eq_none h'] at h
  show (w.heap.push o)[k]? = _
  rw [Array.getElem?_push_lt hlt, ← h, Array.getElem?_eq_getElem hlt]

end Go.Proofs.Ybulkdwxc

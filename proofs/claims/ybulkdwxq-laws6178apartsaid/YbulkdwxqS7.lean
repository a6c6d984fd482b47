/-
  6178A: tools (turned from this seat set's own texts): worlds but for some blocks, rows of cells, regions that draw their order, copy.
-/
import Derived.Test.YbulkdwxqS6
import Derived.Laws.CopyOwn
import Derived.Laws.MakeOwn
namespace Go.Proofs.Ybulkdwxq
open Go.RowKit Go.Sort

/-- w' IS w BUT FOR THE BLOCKS IN S, AND NEW ONES. -/
structure Turn (S : Nat → Prop) (w w' : World) : Prop where
  os : w'.os = w.os
  tape : w'.tape = w.tape
  output : w'.output = w.output
  size : w.heap.size ≤ w'.heap.size
  block : ∀ k, k < w.heap.size → ¬ S k → w'.heap[k]? = w.heap[k]?

theorem Turn.refl (S : Nat → Prop) (w : World) : Turn S w w := ⟨rfl, rfl, rfl, Nat.le_refl _, fun _ _ _ => rfl⟩
theorem Turn.trans {S : Nat → Prop} {a b c : World} (h : Turn S a b) (k : Turn S b c) : Turn S a c :=
  ⟨k.os.trans h.os, k.tape.trans h.tape, k.output.trans h.output, Nat.le_trans h.size k.size, fun i hi hS => (k.block i (Nat.lt_of_lt_of_le hi h.size) hS).trans (h.block i hi hS)⟩
theorem Turn.of_below {S : Nat → Prop} {w w' : World} (h : Below w.heap.size w w') : Turn S w w' := ⟨h.os, h.tape, h.output, h.size, fun k hk _ => h.block k hk⟩
theorem Turn.more {S : Nat → Prop} {w w' w'' : World} (h : Turn S w w') (k : Below w'.heap.size w' w'') : Turn S w w'' := h.trans (.of_below k)
theorem Turn.alloc {S : Nat → Prop} {a w : World} (h : Turn S a w) (o : Obj) : Turn S a (w.alloc o) :=
  h.trans ⟨rfl, rfl, rfl, by simp, fun k hk _ => Below.heap_alloc _ _ _ hk⟩
theorem Turn.drew {S : Nat → Prop} {a w : World} (h : Turn S a w) : Turn S a w.drew := ⟨h.os, h.tape, h.output, h.size, h.block⟩
theorem Turn.setCell {S : Nat → Prop} {a w : World} (h : Turn S a w) {p : Addr} (hp : S p.block) (u : Value) : Turn S a (w.setCell p u) :=
  h.trans ⟨rfl, rfl, rfl, by simp [World.setCell], fun k _ hS => Below.heap_setCell _ _ _ _ (fun e => hS (e ▸ hp))⟩
theorem Turn.mono {S S' : Nat → Prop} {a w : World} (h : Turn S a w) (hS : ∀ k, S k → S' k) : Turn S' a w := ⟨h.os, h.tape, h.output, h.size, fun k hk hn => h.block k hk (fun e => hn (hS k e))⟩
theorem Turn.below {S : Nat → Prop} {w w' : World} (h : Turn S w w') {B : Nat} (hB : B ≤ w.heap.size) (hS : ∀ k, S k → B ≤ k) : Below B w w' :=
  ⟨h.os, h.tape, h.output, h.size, fun k hk => h.block k (by omega) (fun e => by have := hS k e; omega)⟩
theorem Turn.cell {S : Nat → Prop} {w w' : World} (h : Turn S w w') {p : Addr} (hp : p.block < w.heap.size) (hS : ¬ S p.block) : w'.cell? p = w.cell? p := World.cell?_of_block (h.block _ hp hS)
theorem Turn.frozen {S : Nat → Prop} {w w' : World} (h : Turn S w w') {p : Addr} (hp : p.block < w.heap.size) (hS : ¬ S p.block) : w'.frozen? p = w.frozen? p := World.frozen?_of_block (h.block _ hp hS)
theorem Turn.range {S : Nat → Prop} {w w' : World} (h : Turn S w w') {b o : Nat} {cs : List Value} (hr : w.rangeAt b o cs) (hb : b < w.heap.size) (hS : ¬ S b) : w'.rangeAt b o cs :=
  fun j v hv => (h.cell (p := ⟨b, o + j, none⟩) hb hS).trans (hr j v hv)

theorem Turn.setCells {S : Nat → Prop} {a : World} {b : Nat} (hb : S b) : ∀ (vs : List Value) (o : Nat) (w : World), Turn S a w → Turn S a (w.setCells b o vs)
  | [], _, _, h => h
  | v :: r, o, _, h => Turn.setCells hb r (o + 1) _ (h.setCell (p := ⟨b, o, none⟩) hb v)

/-- n ROWS OF sz CELLS IN BLOCK g, THE FIRST i AS f SAYS. -/
structure Rw (w : World) (g n sz i : Nat) (f : Nat → List Value) : Prop where
  lt : g < w.heap.size
  th : w.there g 0 (n * sz)
  ln : ∀ j, j < i → (f j).length = sz
  at_ : ∀ j, j < i → w.rangeAt g (j * sz) (f j)

section
variable {w w' : World} {g n sz i : Nat} {f f' : Nat → List Value} {S : Nat → Prop}
theorem Rw.turn (h : Rw w g n sz i f) (T : Turn S w w') (hS : ¬ S g) : Rw w' g n sz i f :=
  ⟨by have := h.lt; have := T.size; omega, fun j hj => by rw [T.cell (p := ⟨g, 0 + j, none⟩) h.lt hS, T.frozen (p := ⟨g, 0 + j, none⟩) h.lt hS]; exact h.th j hj, h.ln, fun j hj => T.range (h.at_ j hj) h.lt hS⟩
theorem Rw.below (h : Rw w g n sz i f) (T : Below w.heap.size w w') : Rw w' g n sz i f := h.turn (S := fun _ => False) (.of_below T) id
theorem Rw.room (h : Rw w g n sz i f) {j : Nat} (hj : j < n) : w.there g (j * sz) sz := fun k hk => by
  have := h.th (j * sz + k) (by
    have : (j + 1) * sz ≤ n * sz := Nat.mul_le_mul_right _ hj
    rw [Nat.add_mul] at this
    omega)
  rwa [Nat.zero_add] at this
theorem Rw.put (h : Rw w g n sz i f) (hi : i < n) {v : List Value} (hv : v.length = sz) (hf : ∀ j, j < i → f' j = f j) (hfi : f' i = v) : Rw (w.setCells g (i * sz) v) g n sz (i + 1) f' := by
  refine ⟨?_, World.there_setCells h.th _ _ _, ?_, ?_⟩
  · have := (Turn.setCells (S := fun k => k = g) (b := g) rfl v (i * sz) w (Turn.refl _ _)).size
    have := h.lt
    omega
  · intro j hj
    rcases Nat.lt_succ_iff_lt_or_eq.1 hj with hj | hj
    · rw [hf j hj]; exact h.ln j hj
    · subst hj; rw [hfi]; exact hv
  · intro j hj
    rcases Nat.lt_succ_iff_lt_or_eq.1 hj with hj | hj
    · rw [hf j hj]
      refine World.rangeAt_setCells_apart (h.at_ j hj) _ _ _ (.inr (.inl ?_))
      rw [h.ln j hj]
      have : (j + 1) * sz ≤ i * sz := Nat.mul_le_mul_right _ hj
      rw [Nat.add_mul] at this
      omega
    · subst hj
      rw [hfi]
      exact World.rangeAt_setCells_same _ _ _ _ (by rw [hv]; exact h.room hi)
theorem Rw.mono (h : Rw w g n sz i f) (hf : ∀ j, j < i → f' j = f j) : Rw w g n sz i f' :=
  ⟨h.lt, h.th, fun j hj => by rw [hf j hj]; exact h.ln j hj, fun j hj => by rw [hf j hj]; exact h.at_ j hj⟩
/-- The cell of a row of one. -/
theorem Rw.cell {v : Nat → Value} (h : Rw w g n 1 i fun j => [v j]) {j : Nat} (hj : j < i) : w.cell? ⟨g, j, none⟩ = some (v j) := by
  have := h.at_ j hj 0 (v j) rfl
  simpa using this
/-- A made row. -/
theorem Rw.made {ts : TypeId} {C : Array Value} (hb : w.heap[g]? = some (.cells C ts)) (hC : C.size = n * sz) (f : Nat → List Value) : Rw w g n sz 0 f :=
  ⟨(Array.getElem?_eq_some_iff.1 hb).1, fun j hj => by
    rw [cell_of_row _ _ _ _ _ _ hb, Nat.zero_add, Array.getElem?_eq_getElem (by omega)]
    exact ⟨rfl, frozen_of_row _ _ _ _ _ hb⟩, fun j hj => by omega, fun j hj => by omega⟩
end

/-! In a region that draws its order: what yields its value in every world that meets S. -/
section
variable {P : Program} {ops : Array Oper} {S : World → Prop} {o : Oper} {a : Act}
theorem yields_build (hw : Region.wanted o (yielded ops a.tmps) = true) (t : TypeId) (parts : Array (Nat × Operand)) (hop : o.op = .build t parts) (vals : Array (Nat × Value)) (hv : parts.toList.map (fun p => (p.1, a.eval p.2)) = vals.toList) (v : Value)
    (hrun : ∀ w, (Instr.build t vals).run P w = .ok v w) : YieldsIf P ops S o v a := by
  refine .inl ⟨hw, fun w _ => ?_⟩
  have hvv : (parts.map fun p => (p.1, a.eval p.2)) = vals := by
    apply Array.toList_inj.1
    rw [Array.toList_map]
    exact hv
  simp only [execOp, hop]
  rw [show (parts.map fun (x : Nat × Operand) => match x with | (i, x) => (i, a.eval x)) = vals from hvv]
  simp only [hrun w, Sem.run_bind, Result.andThen_ok, Sem.run_pure]
theorem yields_load (hw : Region.wanted o (yielded ops a.tmps) = true) (ty : TypeId) (x : Operand) (hop : o.op = .load ty x) (p v : Value) (hx : a.eval x = p) (hrun : ∀ w, S w → (Instr.loadAt ty p).run P w = .ok v w) : YieldsIf P ops S o v a :=
  .inl ⟨hw, fun w hS => by simp only [execOp, hop, hx, hrun w hS, Sem.run_bind, Result.andThen_ok, Sem.run_pure]⟩
theorem takeH {Q : Exit → Act → World → Prop} {md : Region.Mode} (i : Nat) {oi : Oper} (dst : Option Nat) (v : Value) {fuel : Nat} {listed : Array Bool} {w : World} (hi : ops[i]? = some oi) (hd : oi.dst = dst)
    (hs : Region.noSelect ops = true) (hf : Region.free md ops listed i = true) (hr : (Region.ready md ops listed).contains i = true)
    (hQ : ∀ c a w, Q (.panic c) (a.put dst v) w → Q (.panic c) a w) (hy : YieldsIf P ops S oi v a) (hS : S w)
    (h : wpAnyH P md ops Q S fuel (listed.setIfInBounds i true) (a.put dst v) w) : wpAnyH P md ops Q S (fuel + 1) listed a w := by
  subst hd
  exact wpAnyH_take hi hs hf hr hQ hy hS h
theorem readyH {Q : Exit → Act → World → Prop} {md : Region.Mode} (i : Nat) {o : Oper} {fuel : Nat} {listed : Array Bool} {w : World} {rs : List Nat} (ho : ops[i]? = some o) (hw : Region.wanted o (yielded ops a.tmps) = true)
    (h : Oper.wp P o a w (fun a' w' => S w' ∧ wpAnyH P md ops Q S fuel (listed.setIfInBounds i true) a' w') Q)
    (hs : AllReadyH P md ops Q S fuel listed a w rs) : AllReadyH P md ops Q S fuel listed a w (i :: rs) := fun j hj => by
  rcases List.mem_cons.1 hj with rfl | hj
  · exact wpOp_step ho (fun K' hK => by rw [if_pos hw]; exact Oper.wp_mono hK h)
  · exact hs j hj
section
variable {Q : Exit → Act → World → Prop} {md : Region.Mode} {fuel : Nat} {listed : Array Bool} {w : World} {rs : List Nat}
theorem readyH_enter (i : Nat) (dst : Option Nat) (f : FuncId) (vals : Array Value) (ho : ops[i]? = some o) (hd : o.dst = dst) (hw : Region.wanted o (yielded ops a.tmps) = true) (hrun : (execOp a.eval o).run P w = .ok (.enter f vals) w)
    (hc : Calls P f vals w fun e w' => ∃ v, e = .returned v ∧ S w' ∧ wpAnyH P md ops Q S fuel (listed.setIfInBounds i true) (a.put dst v) w')
    (hs : AllReadyH P md ops Q S fuel listed a w rs) : AllReadyH P md ops Q S fuel listed a w (i :: rs) := by
  subst hd
  refine readyH i ho hw ?_ hs
  unfold Oper.wp
  rw [hrun, Oper.upon_enter]
  refine hc.mono ?_
  rintro e w' ⟨v, rfl, h⟩
  exact h
theorem readyH_value (i : Nat) (dst : Option Nat) (v : Value) (w2 : World) (ho : ops[i]? = some o) (hd : o.dst = dst) (hw : Region.wanted o (yielded ops a.tmps) = true) (hrun : (execOp a.eval o).run P w = .ok (.value v) w2)
    (h : S w2 ∧ wpAnyH P md ops Q S fuel (listed.setIfInBounds i true) (a.put dst v) w2)
    (hs : AllReadyH P md ops Q S fuel listed a w rs) : AllReadyH P md ops Q S fuel listed a w (i :: rs) := by
  subst hd
  refine readyH i ho hw ?_ hs
  unfold Oper.wp
  rw [hrun, Oper.upon_value]
  exact h
theorem readyH_store (i : Nat) (dst : Option Nat) (ho : ops[i]? = some o) (hd : o.dst = dst) (hw : Region.wanted o (yielded ops a.tmps) = true) (ty : TypeId) (x y : Operand) (hop : o.op = .store ty x y)
    (b of : Nat) (C : Array Value) (hx : a.eval x = .pointer (some ⟨b, of, none⟩)) (hy : a.eval y = .agg C) (ht : w.there b of C.size) (hi : (P.info? ty).map (·.size) = some C.size) (h1 : C.all (·.oneCell') = true)
    (h : S (w.setCells b of C.toList) ∧ wpAnyH P md ops Q S fuel (listed.setIfInBounds i true) (a.put dst undef) (w.setCells b of C.toList))
    (hs : AllReadyH P md ops Q S fuel listed a w rs) : AllReadyH P md ops Q S fuel listed a w (i :: rs) := by
  subst hd
  exact readyH i ho hw (wp_store_mid ty x y hop b of C hx hy ht hi h1 h) hs
end
theorem exec_alloc {w w2 : World} {ty : TypeId} {v : Value} (hop : o.op = .alloc ty) (hrun : (Instr.alloc ty true (.tuple #[])).run P w = .ok v w2) : (execOp a.eval o).run P w = .ok (.value v) w2 := by
  simp only [execOp, hop, hrun, Sem.run_bind, Result.andThen_ok, Sem.run_pure]
theorem wpList_run {Q : Exit → Act → World → Prop} {rest : List Oper} {w w2 : World} {v : Value} (hg : o.guard = none) (hrun : (execOp a.eval o).run P w = .ok (.value v) w2) (h : wpList P ops Q rest (a.put o.dst v) w2) : wpList P ops Q (o :: rest) a w :=
  wpList_plain hg fun _ hK => by unfold Oper.wp; rw [hrun, Oper.upon_value]; exact hK _ _ h
theorem yields_assign (hw : Region.wanted o (yielded ops a.tmps) = true) (x : Operand) (hop : o.op = .assign x) (v : Value) (hx : a.eval x = v) : YieldsIf P ops S o v a :=
  .inl ⟨hw, fun w _ => by simp only [execOp, hop, hx, Sem.run_pure]⟩
theorem yields_move (hw : Region.wanted o (yielded ops a.tmps) = true) (x : Operand) (hop : o.op = .move x) (v : Value) (hx : a.eval x = v) : YieldsIf P ops S o v a :=
  .inl ⟨hw, fun w _ => by simp only [execOp, hop, hx, Sem.run_pure]⟩
end
theorem below_setCells {B : Nat} {w w2 : World} (h : Below B w w2) (hB : B ≤ w.heap.size) {b : Nat} (hb : B ≤ b) (o : Nat) (xs : List Value) : Below B w (w2.setCells b o xs) := by
  have T := Turn.setCells (S := fun k => k = b) (b := b) rfl xs o w2 (Turn.refl _ _)
  exact h.trans (T.below (by have := h.size; omega) (by intro k hk; omega))

theorem range_of_block {w : World} {g : Nat} {C : Array Value} {t : TypeId} {fr : Nat × Nat} (h : w.heap[g]? = some (.cells C t fr)) (o : Nat) (cs : List Value) (hc : ∀ j v, cs[j]? = some v → C[o + j]? = some v) : w.rangeAt g o cs :=
  fun j v hv => (cell_of_row _ _ _ _ _ _ h).trans (hc j v hv)
theorem load_many {B : Nat} {w wx : World} {b o : Nat} {ty : TypeId} {cs : Array Value} {d : TypeDesc} (hc : w.rangeAt b o cs.toList) (hk : Below B w wx) (hb : b < B) (hu : Yba.prog.underlying ty = some d) (hd : d.isRow = true) (hi : (Yba.prog.info? ty).map (·.size) = some cs.toList.length) :
    (Instr.loadAt ty (.pointer (some ⟨b, o, none⟩))).run Yba.prog wx = .ok (.agg cs) wx :=
  run_loadAt_mid wx b o ty cs.toList d (rangeAt_below hc hk hb) hu hd hi

/-- 'copy' OF A WHOLE ROW OF THREE CELLS AN ELEMENT. -/
theorem run_copy3 {P : Program} (w : World) (dT sT ty elem : TypeId) (g N dCap : Nat) (a : Addr) (sCap : Nat) (cur : Array Value) (t : TypeId) (cs : List Value)
    (hu : P.underlying dT = some (.slice elem)) (hs : (P.info? elem).map (·.size) = some 3) (hg : w.heap[g]? = some (.cells cur t (0, 0))) (hn : N * 3 = cs.length)
    (hsrc : ∀ j v, cs[j]? = some v → w.cell? (a.add j) = some v) (hfit : cur.size = cs.length) (h1 : ∀ v ∈ cs, v.oneCell' = true) :
    (Builtin.copy_ #[dT, sT] ty #[.slice (some ⟨g, 0, none⟩) N dCap, .slice (some a) N sCap]).run P w = .ok (goInt N) (w.setRow g cs.toArray) := by
  have hl := run_loadCells_list (P := P) w a cs hsrc
  have hst := run_storeCells_at P g 0 t cs 0 cur w hg (by simpa using (Nat.le_of_eq hfit.symm)) h1
  have hd : cur.toList.drop cs.length = [] := by rw [List.drop_eq_nil_iff, Array.length_toList, hfit]; exact Nat.le_refl _
  simp only [Nat.zero_add, List.take_zero, List.nil_append, hd, List.append_nil] at hst
  cases hq : P.info? elem with
  | none => simp [hq] at hs
  | some i =>
    have hi : i.size = 3 := by simpa [hq] using hs
    simp [Builtin.copy_, run_underlying hu, Builtin.lenOf, Builtin.firstCells, sizeOf, typeInfo, hq, hi, hn, hl, hst]
theorem wpList_copy3 {P : Program} {w : World} {ops : Array Oper} {rest : List Oper} {o : Oper} {a : Act} {Q : Exit → Act → World → Prop} (hgd : o.guard = none) (d s : Operand) (dT sT : TypeId)
    (ho : o.op = .call { callee := .builtin .copy, args := #[d, s], argTypes := #[dT, sT] }) (elem : TypeId) (hu : P.underlying dT = some (.slice elem)) (hsz : (P.info? elem).map (·.size) = some 3)
    (g N dCap : Nat) (ad : Addr) (sCap : Nat) (hd : a.eval d = .slice (some ⟨g, 0, none⟩) N dCap) (hs : a.eval s = .slice (some ad) N sCap)
    (cur : Array Value) (t : TypeId) (hg : w.heap[g]? = some (.cells cur t (0, 0))) (cs : List Value) (hn : N * 3 = cs.length)
    (hsrc : ∀ j v, cs[j]? = some v → w.cell? (ad.add j) = some v) (hfit : cur.size = cs.length) (h1 : ∀ v ∈ cs, v.oneCell' = true)
    (h : wpList P ops Q rest (a.put o.dst (goInt N)) (w.setRow g cs.toArray)) : wpList P ops Q (o :: rest) a w := by
  refine wpList_plain hgd fun K hK => ?_
  have hrun := run_copy3 (P := P) w dT sT o.type elem g N dCap ad sCap cur t cs hu hsz hg hn hsrc hfit h1
  unfold Oper.wp
  simp [execOp, ho, resolve, invoke, builtin, hd, hs, hrun, Result.andThen]
  exact hK _ _ h
theorem setCells_size : ∀ (vs : List Value) (b o : Nat) (w : World), (w.setCells b o vs).heap.size = w.heap.size
  | [], _, _, _ => rfl
  | v :: r, b, o, w => by
    show ((w.setCell ⟨b, o, none⟩ v).setCells b (o + 1) r).heap.size = _
    rw [setCells_size r b (o + 1)]
    simp [World.setCell]
theorem turn_setRow (w : World) (g : Nat) (cs : Array Value) : Turn (fun k => k = g) w (w.setRow g cs) :=
  ⟨rfl, rfl, rfl, by simp [World.setRow], fun k _ hk => setRow_other w g k cs hk⟩
theorem setRow_new (w : World) (g : Nat) (cs : Array Value) {cur : Array Value} {t : TypeId} (h : w.heap[g]? = some (.cells cur t (0, 0))) : (w.setRow g cs).heap[g]? = some (.cells cs t (0, 0)) :=
  setRow_heap w g cur cs t (0, 0) h
theorem al_old (w : World) (o : Obj) (k : Nat) (x : Obj) (h : w.heap[k]? = some x) : (w.alloc o).heap[k]? = some x :=
  kept ((Below.refl w.heap.size w).alloc (Nat.le_refl _) o) h
end Go.Proofs.Ybulkdwxq

/-
  6177C: what came in; the memory while the links are made.
-/
import Derived.Test.YbulkdwxcC8
namespace Go.Proofs.Ybulkdwxc
open Go.RowKit Go.Maps Go.Sort

/-- THE MEMBERS THAT CAME IN. -/
def IsMem (w : World) (a : Option Addr) (n : Nat) (M : Md) : Prop :=
  n = 0 ∨ ∃ b o, a = some ⟨b, o, none⟩ ∧ b < w.heap.size ∧ ∀ i, i < n → w.rangeAt b (o + i * 6) [.int .u8 (M.K i), .int .u16 (M.P i), .int .u64 (M.A i), .int .u64 (M.B i), .int .i64 (M.C i), .int .u64 (M.L i)]
/-- THE DEAD KEYS THAT CAME IN. -/
def IsKeys (w : World) (a : Option Addr) (n : Nat) (D : Nat → Int) : Prop :=
  n = 0 ∨ ∃ b o, a = some ⟨b, o, none⟩ ∧ b < w.heap.size ∧ ∀ i, i < n → w.cell? ⟨b, o + i, none⟩ = some (.int .u8 (D i))
theorem size76 (w : World) : (sizeOf 76).run Yba.prog w = .ok 6 w := by kernel_rfl
theorem size5 (w : World) : (sizeOf 5).run Yba.prog w = .ok 1 w := by kernel_rfl
theorem IsMem.get {w : World} {a : Option Addr} {n cap : Nat} {M : Md} (h : IsMem w a n M) {k : Nat} (hk : k < n) :
    ∃ b o, (∀ wx, (Instr.indexAt 73 (.slice a n cap) (.int .i64 (k : Int))).run Yba.prog wx = .ok (.pointer (some ⟨b, o + k * 6, none⟩)) wx) ∧ b < w.heap.size ∧
      w.rangeAt b (o + k * 6) [.int .u8 (M.K k), .int .u16 (M.P k), .int .u64 (M.A k), .int .u64 (M.B k), .int .i64 (M.C k), .int .u64 (M.L k)] := by
  obtain h0 | ⟨b, o, rfl, hb, hr⟩ := h
  · omega
  · refine ⟨b, o, ?_, hb, hr k hk⟩
    intro wx
    have he : Yba.prog.elem 73 = 76 := by kernel_rfl
    rw [run_indexAt_slice wx 73 _ _ _ _ _ (by rw [he]; exact Yba.underlying73), he, if_pos ⟨by omega, by omega⟩, size76]
    simp [Result.andThen, WideShapes.add_plain]
theorem IsKeys.get {w : World} {a : Option Addr} {n cap : Nat} {D : Nat → Int} (h : IsKeys w a n D) {k : Nat} (hk : k < n) :
    ∃ b o, (∀ wx, (Instr.indexAt 61 (.slice a n cap) (.int .i64 (k : Int))).run Yba.prog wx = .ok (.pointer (some ⟨b, o + k, none⟩)) wx) ∧ b < w.heap.size ∧ w.cell? ⟨b, o + k, none⟩ = some (.int .u8 (D k)) := by
  obtain h0 | ⟨b, o, rfl, hb, hr⟩ := h
  · omega
  · refine ⟨b, o, ?_, hb, hr k hk⟩
    intro wx
    have he : Yba.prog.elem 61 = 5 := by kernel_rfl
    rw [run_indexAt_slice wx 61 _ _ _ _ _ (by rw [he]; exact Yba.underlying61), he, if_pos ⟨by omega, by omega⟩, size5]
    simp [Result.andThen, WideShapes.add_plain]
theorem makeMap25 (n : Int) (w : World) : (Instr.makeMap 25 (some (.int .i64 n))).run Yba.prog w = .ok (.map (some w.heap.size)) (w.alloc (.map #[] 0)) := by kernel_rfl
theorem range_next {α : Type} (f : Nat → α) (k : Nat) : (List.range (k + 1)).map f = (List.range k).map f ++ [f k] := by simp [List.range_succ]
/-- The table's cells as it is made, the digest laid in. -/
theorem tbl_cells (gm : Nat) (r : Option Nat) : (tbl gm r)[20]? = some (.pointer (some ⟨gm, 0, none⟩)) ∧ (tbl gm r)[21]? = some (.map r) ∧ (tbl gm r)[22]? = some (.slice none 0 0) ∧ (tbl gm r)[23]? = some (.slice none 0 0) ∧ ∃ v, (tbl gm r)[24]? = some v := ⟨rfl, rfl, rfl, rfl, _, rfl⟩


/-- THE MEMORY WHILE THE LINKS ARE MADE: the counts of what is laid in links, ids, routes, snapPing, snapBack, and of the links. -/
structure Bld (w0 w : World) (gq gm gt g : Nat) (r : Option Nat) (Ks : List (List Int)) (nd : Nat) (rq tick dig : Int) (n : Nat) (cL cI cR cP cB cK : Nat) (lp rp : Nat → Nat) (M : Md) : Prop where
  bs : Bs w gq gm gt r Ks nd rq tick dig
  c22 : w.cell? ⟨gt, 22, none⟩ = some (.slice none 0 0)
  c23 : w.cell? ⟨gt, 23, none⟩ = some (.slice none 0 0)
  rL : Rw w g n 1 cL fun j => [.pointer (some ⟨lp j, 0, none⟩)]
  rI : Rw w (g + 1) n 16 cI fun j => (idv (idk (M.K j))).toList
  rR : Rw w (g + 2) n 1 cR fun j => [.slice (some ⟨rp j, 0, none⟩) 1 1]
  rP : Rw w (g + 3) n 5 cP fun j => pendV (M.A j) 0 0 (rp j)
  rB : Rw w (g + 4) n 5 cB fun j => pendV (M.B j) 0 0 (rp j)
  lk : Lk w (g + 5) cK lp rp M
  bel : Below gq w0 w
  lq : gq < g
  lm : gm < g
  lt : gt < g
  lr : ∀ b, r = some b → b < g

section
variable {w0 w w' : World} {gq gm gt g : Nat} {r : Option Nat} {Ks : List (List Int)} {nd : Nat} {rq tick dig : Int} {n cL cI cR cP cB cK : Nat} {lp rp lp' rp' : Nat → Nat} {M : Md} {S : Nat → Prop}
theorem Bld.sz (h : Bld w0 w gq gm gt g r Ks nd rq tick dig n cL cI cR cP cB cK lp rp M) : g + 5 ≤ w.heap.size := h.rB.lt
theorem Bld.below (h : Bld w0 w gq gm gt g r Ks nd rq tick dig n cL cI cR cP cB cK lp rp M) (b : Below w.heap.size w w') : Bld w0 w' gq gm gt g r Ks nd rq tick dig n cL cI cR cP cB cK lp rp M :=
  ⟨h.bs.below b, (b.cell (World.block_lt_of_cell? w _ h.c22)).trans h.c22, (b.cell (World.block_lt_of_cell? w _ h.c23)).trans h.c23, h.rL.below b, h.rI.below b, h.rR.below b, h.rP.below b, h.rB.below b, h.lk.below b, h.bel.trans (b.mono (by have := h.sz; have := h.lq; omega)), h.lq, h.lm, h.lt, h.lr⟩
theorem Bld.renR {i v : Nat} (h : Bld w0 w gq gm gt g r Ks nd rq tick dig n cL i i i i i lp rp M) : Bld w0 w gq gm gt g r Ks nd rq tick dig n cL i i i i i lp (upd rp i v) M :=
  ⟨h.bs, h.c22, h.c23, h.rL, h.rI, h.rR.mono fun j hj => by rw [upd_lt hj], h.rP.mono fun j hj => by rw [upd_lt hj], h.rB.mono fun j hj => by rw [upd_lt hj],
    ⟨fun j hj => by have := h.lk.at_ j hj; unfold Md.lnk at *; rwa [upd_lt hj], h.lk.lo, h.lk.ne⟩, h.bel, h.lq, h.lm, h.lt, h.lr⟩
/-- A NEW LINK. -/
theorem Bld.link {i v : Nat} (h : Bld w0 w gq gm gt g r Ks nd rq tick dig n i cI cR cP cB i lp rp M) (hb : w.heap[v]? = some (.cells (M.lnk rp i).toArray 68)) (hv : g + 5 ≤ v) (hn : ∀ j, j < i → lp j ≠ v) :
    Bld w0 w gq gm gt g r Ks nd rq tick dig n i cI cR cP cB (i + 1) (upd lp i v) rp M := by
  have hr : upd rp i (rp i) = rp := by funext j; unfold upd; split <;> simp_all
  have := h.lk.grow (gr := rp i) hb hv hn
  rw [hr] at this
  exact ⟨h.bs, h.c22, h.c23, h.rL.mono fun j hj => by rw [upd_lt hj], h.rI, h.rR, h.rP, h.rB, this, h.bel, h.lq, h.lm, h.lt, h.lr⟩
theorem Bld.putR {i : Nat} (h : Bld w0 w gq gm gt g r Ks nd rq tick dig n cL cI i cP cB cK lp rp M) (hi : i < n) : Bld w0 (w.setCell ⟨g + 2, i, none⟩ (.slice (some ⟨rp i, 0, none⟩) 1 1)) gq gm gt g r Ks nd rq tick dig n cL cI (i + 1) cP cB cK lp rp M := by
  have T : Turn (fun k => k = g + 2) w (w.setCell ⟨g + 2, i, none⟩ (.slice (some ⟨rp i, 0, none⟩) 1 1)) := Turn.setCell (S := fun k => k = g + 2) (Turn.refl _ _) (p := ⟨g + 2, i, none⟩) rfl _
  have hp := h.rR.put hi (v := [.slice (some ⟨rp i, 0, none⟩) 1 1]) rfl (fun _ _ => rfl) rfl
  rw [Nat.mul_one] at hp
  have := h.lq; have := h.lm; have := h.lt; have lr := h.lr
  refine ⟨h.bs.turn T (by omega) (by omega) (by omega) (fun b hb => by have := lr b hb; omega), (T.cell (p := ⟨gt, 22, none⟩) (World.block_lt_of_cell? w _ h.c22) (show ¬ gt = g + 2 by omega)).trans h.c22, (T.cell (p := ⟨gt, 23, none⟩) (World.block_lt_of_cell? w _ h.c23) (show ¬ gt = g + 2 by omega)).trans h.c23,
    h.rL.turn T (by omega), h.rI.turn T (by omega), hp, h.rP.turn T (by omega), h.rB.turn T (by omega), h.lk.turn T (fun j hj => by have := h.lk.lo j hj; omega), h.bel.trans (T.below (by have := h.sz; omega) (by omega)), h.lq, h.lm, h.lt, h.lr⟩
theorem Bld.putL {i : Nat} (h : Bld w0 w gq gm gt g r Ks nd rq tick dig n i cI cR cP cB cK lp rp M) (hi : i < n) : Bld w0 (w.setCell ⟨g, i, none⟩ (.pointer (some ⟨lp i, 0, none⟩))) gq gm gt g r Ks nd rq tick dig n (i + 1) cI cR cP cB cK lp rp M := by
  have T : Turn (fun k => k = g) w (w.setCell ⟨g, i, none⟩ (.pointer (some ⟨lp i, 0, none⟩))) := Turn.setCell (S := fun k => k = g) (Turn.refl _ _) (p := ⟨g, i, none⟩) rfl _
  have hp := h.rL.put hi (v := [.pointer (some ⟨lp i, 0, none⟩)]) rfl (fun _ _ => rfl) rfl
  rw [Nat.mul_one] at hp
  have := h.lq; have := h.lm; have := h.lt; have lr := h.lr
  refine ⟨h.bs.turn T (by omega) (by omega) (by omega) (fun b hb => by have := lr b hb; omega), (T.cell (p := ⟨gt, 22, none⟩) (World.block_lt_of_cell? w _ h.c22) (show ¬ gt = g by omega)).trans h.c22, (T.cell (p := ⟨gt, 23, none⟩) (World.block_lt_of_cell? w _ h.c23) (show ¬ gt = g by omega)).trans h.c23,
    hp, h.rI.turn T (by omega), h.rR.turn T (by omega), h.rP.turn T (by omega), h.rB.turn T (by omega), h.lk.turn T (fun j hj => by have := h.lk.lo j hj; omega), h.bel.trans (T.below (by have := h.sz; omega) (by omega)), h.lq, h.lm, h.lt, h.lr⟩
theorem Bld.putI {i : Nat} (h : Bld w0 w gq gm gt g r Ks nd rq tick dig n cL i cR cP cB cK lp rp M) (hi : i < n) : Bld w0 (w.setCells (g + 1) (i * 16) (idv (idk (M.K i))).toList) gq gm gt g r Ks nd rq tick dig n cL (i + 1) cR cP cB cK lp rp M := by
  have T : Turn (fun k => k = g + 1) w (w.setCells (g + 1) (i * 16) (idv (idk (M.K i))).toList) := Turn.setCells (S := fun k => k = g + 1) (b := g + 1) rfl _ _ _ (Turn.refl _ _)
  have hp := h.rI.put hi (v := (idv (idk (M.K i))).toList) rfl (fun _ _ => rfl) rfl
  have := h.lq; have := h.lm; have := h.lt; have lr := h.lr
  refine ⟨h.bs.turn T (by omega) (by omega) (by omega) (fun b hb => by have := lr b hb; omega), (T.cell (p := ⟨gt, 22, none⟩) (World.block_lt_of_cell? w _ h.c22) (show ¬ gt = g + 1 by omega)).trans h.c22, (T.cell (p := ⟨gt, 23, none⟩) (World.block_lt_of_cell? w _ h.c23) (show ¬ gt = g + 1 by omega)).trans h.c23,
    h.rL.turn T (by omega), hp, h.rR.turn T (by omega), h.rP.turn T (by omega), h.rB.turn T (by omega), h.lk.turn T (fun j hj => by have := h.lk.lo j hj; omega), h.bel.trans (T.below (by have := h.sz; omega) (by omega)), h.lq, h.lm, h.lt, h.lr⟩
theorem Bld.putP {i : Nat} (h : Bld w0 w gq gm gt g r Ks nd rq tick dig n cL cI cR i cB cK lp rp M) (hi : i < n) : Bld w0 (w.setCells (g + 3) (i * 5) (pendV (M.A i) 0 0 (rp i))) gq gm gt g r Ks nd rq tick dig n cL cI cR (i + 1) cB cK lp rp M := by
  have T : Turn (fun k => k = g + 3) w (w.setCells (g + 3) (i * 5) (pendV (M.A i) 0 0 (rp i))) := Turn.setCells (S := fun k => k = g + 3) (b := g + 3) rfl _ _ _ (Turn.refl _ _)
  have hp := h.rP.put hi (v := pendV (M.A i) 0 0 (rp i)) rfl (fun _ _ => rfl) rfl
  have := h.lq; have := h.lm; have := h.lt; have lr := h.lr
  refine ⟨h.bs.turn T (by omega) (by omega) (by omega) (fun b hb => by have := lr b hb; omega), (T.cell (p := ⟨gt, 22, none⟩) (World.block_lt_of_cell? w _ h.c22) (show ¬ gt = g + 3 by omega)).trans h.c22, (T.cell (p := ⟨gt, 23, none⟩) (World.block_lt_of_cell? w _ h.c23) (show ¬ gt = g + 3 by omega)).trans h.c23,
    h.rL.turn T (by omega), h.rI.turn T (by omega), h.rR.turn T (by omega), hp, h.rB.turn T (by omega), h.lk.turn T (fun j hj => by have := h.lk.lo j hj; omega), h.bel.trans (T.below (by have := h.sz; omega) (by omega)), h.lq, h.lm, h.lt, h.lr⟩
theorem Bld.putB {i : Nat} (h : Bld w0 w gq gm gt g r Ks nd rq tick dig n cL cI cR cP i cK lp rp M) (hi : i < n) : Bld w0 (w.setCells (g + 4) (i * 5) (pendV (M.B i) 0 0 (rp i))) gq gm gt g r Ks nd rq tick dig n cL cI cR cP (i + 1) cK lp rp M := by
  have T : Turn (fun k => k = g + 4) w (w.setCells (g + 4) (i * 5) (pendV (M.B i) 0 0 (rp i))) := Turn.setCells (S := fun k => k = g + 4) (b := g + 4) rfl _ _ _ (Turn.refl _ _)
  have hp := h.rB.put hi (v := pendV (M.B i) 0 0 (rp i)) rfl (fun _ _ => rfl) rfl
  have := h.lq; have := h.lm; have := h.lt; have lr := h.lr
  refine ⟨h.bs.turn T (by omega) (by omega) (by omega) (fun b hb => by have := lr b hb; omega), (T.cell (p := ⟨gt, 22, none⟩) (World.block_lt_of_cell? w _ h.c22) (show ¬ gt = g + 4 by omega)).trans h.c22, (T.cell (p := ⟨gt, 23, none⟩) (World.block_lt_of_cell? w _ h.c23) (show ¬ gt = g + 4 by omega)).trans h.c23,
    h.rL.turn T (by omega), h.rI.turn T (by omega), h.rR.turn T (by omega), h.rP.turn T (by omega), hp, h.lk.turn T (fun j hj => by have := h.lk.lo j hj; omega), h.bel.trans (T.below (by have := h.sz; omega) (by omega)), h.lq, h.lm, h.lt, h.lr⟩
/-- The cell that a row of one has room for. -/
theorem Rw.slot {g n i j : Nat} {f : Nat → List Value} (h : Rw w g n 1 i f) (hj : j < n) : ∃ u, w.cell? ⟨g, j, none⟩ = some u ∧ w.frozen? ⟨g, j, none⟩ = false := by
  have := h.room hj 0 (by omega)
  rw [Nat.mul_one, Nat.add_zero] at this
  obtain ⟨u, hu⟩ := Option.isSome_iff_exists.1 this.1
  exact ⟨u, hu, this.2⟩
/-- As the loop begins. -/
theorem Bld.start {ws : World} {C1 C2 C3 C4 : Array Value} (hB : Bs ws gq gm gt r Ks nd rq tick dig) (h22 : ws.cell? ⟨gt, 22, none⟩ = some (.slice none 0 0)) (h23 : ws.cell? ⟨gt, 23, none⟩ = some (.slice none 0 0)) (s1 : C1.size = n * 1) (s2 : C2.size = n * 16) (s3 : C3.size = n * 1) (s4 : C4.size = n * 5)
    (hbel : Below gq w0 ws) (hg : ws.heap.size = g) (lq : gq < g) (lm : gm < g) (lt : gt < g) (lr : ∀ b, r = some b → b < g) (lp rp : Nat → Nat) :
    Bld w0 (((((ws.alloc (.cells C1 56)).alloc (.cells C2 30)).alloc (.cells C3 50)).alloc (.cells C4 59)).alloc (.cells C4 59)) gq gm gt g r Ks nd rq tick dig n 0 0 0 0 0 0 lp rp M := by
  have b : Below ws.heap.size ws (((((ws.alloc (.cells C1 56)).alloc (.cells C2 30)).alloc (.cells C3 50)).alloc (.cells C4 59)).alloc (.cells C4 59)) :=
    (((((Below.refl _ _).alloc (Nat.le_refl _) _).alloc (by simp) _).alloc (by simp; omega) _).alloc (by simp; omega) _).alloc (by simp; omega) _
  have e1 := al_old _ (.cells C4 59) _ _ (al_old _ (.cells C4 59) _ _ (al_old _ (.cells C3 50) _ _ (al_old _ (.cells C2 30) _ _ (al_new ws (.cells C1 56) g hg.symm))))
  have e2 := al_old _ (.cells C4 59) _ _ (al_old _ (.cells C4 59) _ _ (al_old _ (.cells C3 50) _ _ (al_new (ws.alloc (.cells C1 56)) (.cells C2 30) (g + 1) (by rw [al_size, hg]))))
  have e3 := al_old _ (.cells C4 59) _ _ (al_old _ (.cells C4 59) _ _ (al_new ((ws.alloc (.cells C1 56)).alloc (.cells C2 30)) (.cells C3 50) (g + 2) (by rw [al_size, al_size, hg])))
  have e4 := al_old _ (.cells C4 59) _ _ (al_new (((ws.alloc (.cells C1 56)).alloc (.cells C2 30)).alloc (.cells C3 50)) (.cells C4 59) (g + 3) (by rw [al_size, al_size, al_size, hg]))
  have e5 := al_new ((((ws.alloc (.cells C1 56)).alloc (.cells C2 30)).alloc (.cells C3 50)).alloc (.cells C4 59)) (.cells C4 59) (g + 4) (by rw [al_size, al_size, al_size, al_size, hg])
  exact ⟨hB.below b, (b.cell (World.block_lt_of_cell? ws _ h22)).trans h22, (b.cell (World.block_lt_of_cell? ws _ h23)).trans h23, Rw.made e1 s1 _, Rw.made e2 s2 _, Rw.made e3 s3 _, Rw.made e4 s4 _, Rw.made e5 s4 _, Lk.none _ _ _ _ _, hbel.trans (b.mono (by omega)), lq, lm, lt, lr⟩
end

/-! In a region that draws its order: what yields its value in every world that meets S. -/
section
variable {P : Program} {ops : Array Oper} {S : World → Prop} {o : Oper} {a : Act}
theorem yields_build (hw : Region.wanted o (yielded ops a.tmps) = true) (t : TypeId) (parts : Array (Nat × Operand)) (hop : o.op = .build t parts) (vals : Array (Nat × Value)) (hv : parts.toList.map (fun p => (p.1, a.eval p.2)) = vals.toList) (v : Value)
    (hrun : ∀ w, (Instr.build t vals).run P w = .ok v w) : YieldsIf P ops S o v a := by
  refine .inl ⟨hw, fun w _ => ?_⟩
  have hvv : (parts.map fun p => (p.1, a.eval p.2)) = vals := by
    apply Array.toList_inj.1
    rw [Array.toList_map]
    exact hv
  simp only [execOp, hop]
  rw [show (parts.map fun (x : Nat × Operand) => match x with | (i, x) => (i, a.eval x)) = vals from hvv]
  simp only [hrun w, Sem.run_bind, Result.andThen_ok, Sem.run_pure]
theorem yields_load (hw : Region.wanted o (yielded ops a.tmps) = true) (ty : TypeId) (x : Operand) (hop : o.op = .load ty x) (p v : Value) (hx : a.eval x = p) (hrun : ∀ w, S w → (Instr.loadAt ty p).run P w = .ok v w) : YieldsIf P ops S o v a :=
  .inl ⟨hw, fun w hS => by simp only [execOp, hop, hx, hrun w hS, Sem.run_bind, Result.andThen_ok, Sem.run_pure]⟩
theorem takeH {Q : Exit → Act → World → Prop} {md : Region.Mode} (i : Nat) {oi : Oper} (dst : Option Nat) (v : Value) {fuel : Nat} {listed : Array Bool} {w : World} (hi : ops[i]? = some oi) (hd : oi.dst = dst)
    (hs : Region.noSelect ops = true) (hf : Region.free md ops listed i = true) (hr : (Region.ready md ops listed).contains i = true)
    (hQ : ∀ c a w, Q (.panic c) (a.put dst v) w → Q (.panic c) a w) (hy : YieldsIf P ops S oi v a) (hS : S w)
    (h : wpAnyH P md ops Q S fuel (listed.setIfInBounds i true) (a.put dst v) w) : wpAnyH P md ops Q S (fuel + 1) listed a w := by
  subst hd
  exact wpAnyH_take hi hs hf hr hQ hy hS h
theorem readyH {Q : Exit → Act → World → Prop} {md : Region.Mode} (i : Nat) {o : Oper} {fuel : Nat} {listed : Array Bool} {w : World} {rs : List Nat} (ho : ops[i]? = some o) (hw : Region.wanted o (yielded ops a.tmps) = true)
    (h : Oper.wp P o a w (fun a' w' => S w' ∧ wpAnyH P md ops Q S fuel (listed.setIfInBounds i true) a' w') Q)
    (hs : AllReadyH P md ops Q S fuel listed a w rs) : AllReadyH P md ops Q S fuel listed a w (i :: rs) := fun j hj => by
  rcases List.mem_cons.1 hj with rfl | hj
  · exact wpOp_step ho (fun K' hK => by rw [if_pos hw]; exact Oper.wp_mono hK h)
  · exact hs j hj
section
variable {Q : Exit → Act → World → Prop} {md : Region.Mode} {fuel : Nat} {listed : Array Bool} {w : World} {rs : List Nat}
theorem readyH_enter (i : Nat) (dst : Option Nat) (f : FuncId) (vals : Array Value) (ho : ops[i]? = some o) (hd : o.dst = dst) (hw : Region.wanted o (yielded ops a.tmps) = true) (hrun : (execOp a.eval o).run P w = .ok (.enter f vals) w)
    (hc : Calls P f vals w fun e w' => ∃ v, e = .returned v ∧ S w' ∧ wpAnyH P md ops Q S fuel (listed.setIfInBounds i true) (a.put dst v) w')
    (hs : AllReadyH P md ops Q S fuel listed a w rs) : AllReadyH P md ops Q S fuel listed a w (i :: rs) := by
  subst hd
  refine readyH i ho hw ?_ hs
  unfold Oper.wp
  rw [hrun, Oper.upon_enter]
  refine hc.mono ?_
  rintro e w' ⟨v, rfl, h⟩
  exact h
theorem readyH_value (i : Nat) (dst : Option Nat) (v : Value) (w2 : World) (ho : ops[i]? = some o) (hd : o.dst = dst) (hw : Region.wanted o (yielded ops a.tmps) = true) (hrun : (execOp a.eval o).run P w = .ok (.value v) w2)
    (h : S w2 ∧ wpAnyH P md ops Q S fuel (listed.setIfInBounds i true) (a.put dst v) w2)
    (hs : AllReadyH P md ops Q S fuel listed a w rs) : AllReadyH P md ops Q S fuel listed a w (i :: rs) := by
  subst hd
  refine readyH i ho hw ?_ hs
  unfold Oper.wp
  rw [hrun, Oper.upon_value]
  exact h
theorem readyH_store (i : Nat) (dst : Option Nat) (ho : ops[i]? = some o) (hd : o.dst = dst) (hw : Region.wanted o (yielded ops a.tmps) = true) (ty : TypeId) (x y : Operand) (hop : o.op = .store ty x y)
    (b of : Nat) (C : Array Value) (hx : a.eval x = .pointer (some ⟨b, of, none⟩)) (hy : a.eval y = .agg C) (ht : w.there b of C.size) (hi : (P.info? ty).map (·.size) = some C.size) (h1 : C.all (·.oneCell') = true)
    (h : S (w.setCells b of C.toList) ∧ wpAnyH P md ops Q S fuel (listed.setIfInBounds i true) (a.put dst undef) (w.setCells b of C.toList))
    (hs : AllReadyH P md ops Q S fuel listed a w rs) : AllReadyH P md ops Q S fuel listed a w (i :: rs) := by
  subst hd
  exact readyH i ho hw (wp_store_mid ty x y hop b of C hx hy ht hi h1 h) hs
end
theorem exec_alloc {w w2 : World} {ty : TypeId} {v : Value} (hop : o.op = .alloc ty) (hrun : (Instr.alloc ty true (.tuple #[])).run P w = .ok v w2) : (execOp a.eval o).run P w = .ok (.value v) w2 := by
  simp only [execOp, hop, hrun, Sem.run_bind, Result.andThen_ok, Sem.run_pure]
theorem exec_box {w w2 : World} {ty : TypeId} {x : Operand} {u v : Value} (hop : o.op = .box ty x) (hx : a.eval x = u) (hrun : (Instr.box ty u).run P w = .ok v w2) : (execOp a.eval o).run P w = .ok (.value v) w2 := by
  simp only [execOp, hop, hx, hrun, Sem.run_bind, Result.andThen_ok, Sem.run_pure]
theorem exec_buildSlice {w w2 : World} {t : TypeId} {len : Nat} {parts : Array (Nat × Operand)} {vals : Array (Nat × Value)} {v : Value} (hop : o.op = .buildSlice t len parts) (hv : parts.toList.map (fun p => (p.1, a.eval p.2)) = vals.toList)
    (hrun : (Instr.buildSlice t len vals).run P w = .ok v w2) : (execOp a.eval o).run P w = .ok (.value v) w2 := by
  have hvv : (parts.map fun p => (p.1, a.eval p.2)) = vals := by
    apply Array.toList_inj.1
    rw [Array.toList_map]
    exact hv
  simp only [execOp, hop]
  rw [show (parts.map fun (x : Nat × Operand) => match x with | (i, x) => (i, a.eval x)) = vals from hvv]
  simp only [hrun, Sem.run_bind, Result.andThen_ok, Sem.run_pure]
theorem wpList_run {Q : Exit → Act → World → Prop} {rest : List Oper} {w w2 : World} {v : Value} (hg : o.guard = none) (hrun : (execOp a.eval o).run P w = .ok (.value v) w2) (h : wpList P ops Q rest (a.put o.dst v) w2) : wpList P ops Q (o :: rest) a w :=
  wpList_plain hg fun _ hK => by unfold Oper.wp; rw [hrun, Oper.upon_value]; exact hK _ _ h
theorem yields_assign (hw : Region.wanted o (yielded ops a.tmps) = true) (x : Operand) (hop : o.op = .assign x) (v : Value) (hx : a.eval x = v) : YieldsIf P ops S o v a :=
  .inl ⟨hw, fun w _ => by simp only [execOp, hop, hx, Sem.run_pure]⟩
theorem alloc46 (w : World) : (Instr.alloc 46 true (.tuple #[])).run Yba.prog w = .ok (.pointer (some ⟨w.heap.size, 0, none⟩)) (w.alloc (.cells peer0 46)) := by kernel_rfl
theorem box68 (C : Array Value) (w : World) : (Instr.box 68 (.agg C)).run Yba.prog w = .ok (.pointer (some ⟨w.heap.size, 0, none⟩)) (w.alloc (.cells C 68)) := rfl
theorem below_setCells {B : Nat} {w w2 : World} (h : Below B w w2) (hB : B ≤ w.heap.size) {b : Nat} (hb : B ≤ b) (o : Nat) (xs : List Value) : Below B w (w2.setCells b o xs) := by
  have T := Turn.setCells (S := fun k => k = b) (b := b) rfl xs o w2 (Turn.refl _ _)
  exact h.trans (T.below (by have := h.size; omega) (by intro k hk; omega))
/-- The block of a variable that has just been made has room. -/
theorem there_new {w : World} {Z : Array Value} {t : TypeId} {n : Nat} (hn : Z.size = n) {w' : World} (hb : Below (w.alloc (.cells Z t)).heap.size (w.alloc (.cells Z t)) w') : w'.there w.heap.size 0 n := fun j hj => by
  have h := kept hb (al_new w (.cells Z t) _ rfl)
  rw [Nat.zero_add, cell_of_row _ _ _ _ _ _ h, Array.getElem?_eq_getElem (by omega)]
  exact ⟨rfl, frozen_of_row _ _ _ _ _ h⟩
theorem yields_move (hw : Region.wanted o (yielded ops a.tmps) = true) (x : Operand) (hop : o.op = .move x) (v : Value) (hx : a.eval x = v) : YieldsIf P ops S o v a :=
  .inl ⟨hw, fun w _ => by simp only [execOp, hop, hx, Sem.run_pure]⟩
end

/-- THE MEMORY AS pingBack IS CALLED. -/
structure Rdy (w0 w : World) (gq gm gt g : Nat) (r : Option Nat) (Ks : List (List Int)) (nd : Nat) (rq tick dig : Int) (n : Nat) (lp rp : Nat → Nat) (M : Md) : Prop where
  bs : Bs w gq gm gt r Ks nd rq tick dig
  c22 : w.cell? ⟨gt, 22, none⟩ = some (.slice (some ⟨g, 0, none⟩) n n)
  c23 : w.cell? ⟨gt, 23, none⟩ = some (.slice (some ⟨g + 1, 0, none⟩) n n)
  rL : Rw w g n 1 n fun j => [.pointer (some ⟨lp j, 0, none⟩)]
  rI : Rw w (g + 1) n 16 n fun j => (idv (idk (M.K j))).toList
  rR : Rw w (g + 2) n 1 n fun j => [.slice (some ⟨rp j, 0, none⟩) 1 1]
  rP : Rw w (g + 3) n 5 n fun j => pendV (M.A j) 0 0 (rp j)
  rB : Rw w (g + 4) n 5 n fun j => pendV (M.B j) 0 0 (rp j)
  lk : Lk w (g + 5) n lp rp M
  bel : Below gq w0 w
  lq : gq < g
  lm : gm < g
  lt : gt < g
  nq : gq ≠ gt
  nm : gm ≠ gt
section
variable {w0 w w' : World} {gq gm gt g : Nat} {r : Option Nat} {Ks : List (List Int)} {nd : Nat} {rq tick dig : Int} {n : Nat} {lp rp : Nat → Nat} {M : Md}
theorem Rdy.sz (h : Rdy w0 w gq gm gt g r Ks nd rq tick dig n lp rp M) : g + 5 ≤ w.heap.size := h.rB.lt
theorem Rdy.below (h : Rdy w0 w gq gm gt g r Ks nd rq tick dig n lp rp M) (b : Below w.heap.size w w') : Rdy w0 w' gq gm gt g r Ks nd rq tick dig n lp rp M :=
  ⟨h.bs.below b, (b.cell (World.block_lt_of_cell? w _ h.c22)).trans h.c22, (b.cell (World.block_lt_of_cell? w _ h.c23)).trans h.c23, h.rL.below b, h.rI.below b, h.rR.below b, h.rP.below b, h.rB.below b, h.lk.below b, h.bel.trans (b.mono (by have := h.sz; have := h.lq; omega)), h.lq, h.lm, h.lt, h.nq, h.nm⟩
theorem Bld.ready (h : Bld w0 w gq gm gt g r Ks nd rq tick dig n n n n n n n lp rp M) (nq : gq < gt) (nm : gm < gt) (nr : ∀ b, r = some b → b ≠ gt) :
    Rdy w0 ((w.setCell ⟨gt, 22, none⟩ (.slice (some ⟨g, 0, none⟩) n n)).setCell ⟨gt, 23, none⟩ (.slice (some ⟨g + 1, 0, none⟩) n n)) gq gm gt g r Ks nd rq tick dig n lp rp M := by
  have T : Turn (fun k => k = gt) w ((w.setCell ⟨gt, 22, none⟩ (.slice (some ⟨g, 0, none⟩) n n)).setCell ⟨gt, 23, none⟩ (.slice (some ⟨g + 1, 0, none⟩) n n)) :=
    Turn.setCell (S := fun k => k = gt) (Turn.setCell (S := fun k => k = gt) (Turn.refl _ _) (p := ⟨gt, 22, none⟩) rfl _) (p := ⟨gt, 23, none⟩) rfl _
  have := h.lq; have := h.lm; have := h.lt
  have B := h.bs
  refine ⟨⟨(T.cell (World.block_lt_of_cell? w _ B.cq) (show ¬ gq = gt by omega)).trans B.cq, (T.cell (World.block_lt_of_cell? w _ B.ck) (show ¬ gm = gt by omega)).trans B.ck, ?_, ?_, ?_, ?_, B.dd.kept fun b hb hlt => T.block b hlt (nr b hb)⟩, ?_, World.cell?_setCell_same _ _ _ (u := .slice none 0 0) ?_, h.rL.turn T (by omega), h.rI.turn T (by omega), h.rR.turn T (by omega), h.rP.turn T (by omega), h.rB.turn T (by omega),
    h.lk.turn T (fun j hj => by have := h.lk.lo j hj; omega), h.bel.trans (T.below (by have := h.sz; omega) (by omega)), h.lq, h.lm, h.lt, by omega, by omega⟩
  · rw [World.cell?_setCell_other _ _ _ _ (by simp), World.cell?_setCell_other _ _ _ _ (by simp)]; exact B.t20
  · rw [World.cell?_setCell_other _ _ _ _ (by simp), World.cell?_setCell_other _ _ _ _ (by simp)]; exact B.t21
  · rw [World.cell?_setCell_other _ _ _ _ (by simp), World.cell?_setCell_other _ _ _ _ (by simp)]; exact B.t24
  · intro j; rw [World.frozen?_setCell, World.frozen?_setCell]; exact B.tf j
  · rw [World.cell?_setCell_other _ _ _ _ (by simp)]; exact World.cell?_setCell_same _ _ _ h.c22
  · rw [World.cell?_setCell_other _ _ _ _ (by simp)]; exact h.c23
end
end Go.Proofs.Ybulkdwxc

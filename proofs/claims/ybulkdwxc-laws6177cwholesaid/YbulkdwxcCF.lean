/-
  6177C: the memory behind pingBack.
-/
import Derived.Test.YbulkdwxcC9
namespace Go.Proofs.Ybulkdwxc
open Go.RowKit Go.Maps Go.Sort

theorem build29C (w : World) : (Instr.build 29 #[]).run Yba.prog w = .ok (.agg #[.int .u64 0, .int .i64 0, .pointer none]) w := by kernel_rfl
theorem pendV_one (q n s : Int) (g : Nat) : (pendV q n s g).toArray.all (·.oneCell') = true := by simp [pendV, Value.oneCell']
theorem fst_exists (n : Nat) (K : Nat → Int) (k : Int) : ∃ r, FstM n K k r := by
  by_cases h : ∃ i, i < n ∧ K i = k
  · obtain ⟨i, ⟨hi, hk⟩, hm⟩ := exists_least h
    refine ⟨some i, hi, hk, fun j hj e => ?_⟩
    have := hm j ⟨by omega, e⟩
    omega
  · exact ⟨none, fun j hj e => h ⟨j, hj, e⟩⟩

/-- THE MEMORY BEHIND pingBack. -/
structure Fin6 (w0 w : World) (gq gt g gN gc : Nat) (rq dig nn ns : Int) (n : Nat) (lp rp : Nat → Nat) (M : Md) (m bk : Int) (pv : Value) (rr : Option Nat) : Prop where
  cq : w.cell? ⟨gq, 0, none⟩ = some (.int .u64 rq)
  c22 : w.cell? ⟨gt, 22, none⟩ = some (.slice (some ⟨g, 0, none⟩) n n)
  c24 : w.cell? ⟨gt, 24, none⟩ = some (.int .u64 dig)
  cN : w.heap[gN]? = some (.cells #[.int .u64 nn, .int .i64 ns, .pointer none] 29)
  rL : Rw w g n 1 n fun j => [.pointer (some ⟨lp j, 0, none⟩)]
  rR : Rw w (g + 2) n 1 n fun j => [.slice (some ⟨rp j, 0, none⟩) 1 1]
  rP : Rw w (g + 3) n 5 n fun j => pendV (M.A j) 0 0 (rp j)
  rB : Rw w (g + 4) n 5 n fun j => pendV (M.B j) 0 0 (rp j)
  cc : w.cell? ⟨gc, 0, none⟩ = some (.int .i64 (if m = 0 then 0 else 1))
  lk : ∀ j, j < n → w.rangeAt (lp j) 0 (M.lnkF rp (decide (rr = some j) && decide (m = 1)) (decide (rr = some j) && decide (m = 2)) nn ns rq j) ∧ lp j < w.heap.size
  bk_ : bk = if m = 2 then rq else 0
  m0 : m ≠ 1 → pv = .pointer none
  m1 : m = 1 → ∃ i go ge, rr = some i ∧ pv = .pointer (some ⟨go, 0, none⟩) ∧ w.heap[go]? = some (.cells #[.slice (some ⟨rp i, 0, none⟩) 1 1, .pointer (some ⟨ge, 0, none⟩)] 86) ∧ w.heap[ge]? = some (.cells (msgC rq (M.L i) dig) 104)
  bel : Below gq w0 w
  lq : gq < g

section
variable {w0 w w' : World} {gq gm gt g gN gc : Nat} {r : Option Nat} {Ks : List (List Int)} {nd : Nat} {rq tick dig nn ns m bk : Int} {pv : Value} {n : Nat} {lp rp : Nat → Nat} {M : Md} {rr : Option Nat}
theorem Fin6.sz (h : Fin6 w0 w gq gt g gN gc rq dig nn ns n lp rp M m bk pv rr) : g + 5 ≤ w.heap.size := h.rB.lt
theorem Fin6.below (h : Fin6 w0 w gq gt g gN gc rq dig nn ns n lp rp M m bk pv rr) (b : Below w.heap.size w w') : Fin6 w0 w' gq gt g gN gc rq dig nn ns n lp rp M m bk pv rr :=
  ⟨(b.cell (World.block_lt_of_cell? w _ h.cq)).trans h.cq, (b.cell (World.block_lt_of_cell? w _ h.c22)).trans h.c22, (b.cell (World.block_lt_of_cell? w _ h.c24)).trans h.c24, kept b h.cN, h.rL.below b, h.rR.below b, h.rP.below b, h.rB.below b,
    (b.cell (World.block_lt_of_cell? w _ h.cc)).trans h.cc, fun j hj => ⟨rangeAt_below (h.lk j hj).1 b (h.lk j hj).2, by have := (h.lk j hj).2; have := b.size; omega⟩, h.bk_, h.m0,
    fun e => by obtain ⟨i, go, ge, h1, h2, h3, h4⟩ := h.m1 e; exact ⟨i, go, ge, h1, h2, kept b h3, kept b h4⟩, h.bel.trans (b.mono (by have := h.sz; have := h.lq; omega)), h.lq⟩
theorem Rdy.fin (h : Rdy w0 w gq gm gt g r Ks nd rq tick dig n lp rp M) (hN : w.heap[gN]? = some (.cells #[.int .u64 nn, .int .i64 ns, .pointer none] 29)) (hlN : ∀ j, j < n → lp j < gN) (hNc : gN < gc) (hgN : g + 5 ≤ gN)
    (A : Aft w w' m bk pv gt gc gq n lp rp M nn ns rq dig rr) : Fin6 w0 w' gq gt g gN gc rq dig nn ns n lp rp M m bk pv rr := by
  have T := A.T
  have no : ∀ k, k < g + 5 → ¬ (k = gc ∨ ∃ j, j < n ∧ k = lp j) := by
    rintro k hk (e | ⟨j, hj, e⟩)
    · omega
    · have := h.lk.lo j hj; omega
  have lq := h.lq; have lt := h.lt
  refine ⟨(T.cell (World.block_lt_of_cell? w _ h.bs.cq) (no gq (by omega))).trans h.bs.cq, (T.cell (World.block_lt_of_cell? w _ h.c22) (no gt (by omega))).trans h.c22, (T.cell (World.block_lt_of_cell? w _ h.bs.t24) (no gt (by omega))).trans h.bs.t24,
    (T.block gN (Array.getElem?_eq_some_iff.1 hN).1 (by rintro (e | ⟨j, hj, e⟩); · omega
                                                        · have := hlN j hj; omega)).trans hN,
    h.rL.turn T (no _ (by omega)), h.rR.turn T (no _ (by omega)), h.rP.turn T (no _ (by omega)), h.rB.turn T (no _ (by omega)), A.cc, fun j hj => ⟨A.lk j hj, World.block_lt_of_cell? _ _ (A.lk j hj 0 _ rfl)⟩, A.bk_, A.m0, A.m1, h.bel.trans (T.below (by have := h.sz; omega) ?_), h.lq⟩
  rintro k (e | ⟨j, hj, e⟩)
  · omega
  · have := h.lk.lo j hj; omega
end
theorem modeC_three (M : Md) (p : Int) (dead : Bool) (nn ns tick : Int) (r : Option Nat) : modeC M p dead nn ns tick r = 0 ∨ modeC M p dead nn ns tick r = 1 ∨ modeC M p dead nn ns tick r = 2 := by
  unfold modeC
  split
  · exact .inl rfl
  · split
    · split
      · exact .inr (.inl rfl)
      · exact .inr (.inr rfl)
    · exact .inl rfl
def portIs (M : Md) (p : Int) (r : Option Nat) : Bool := match r with | none => false | some i => decide (M.P i = p)
/-- The place as the law's number. -/
def ixv (r : Option Nat) : Int := match r with | none => -1 | some i => i
/-! The last loop. -/
def pendZ : Array Value := #[.int .u64 0, .int .u64 0, .int .i64 0, .pointer none, .slice none 0 0]
theorem alloc59 (w : World) : (Instr.alloc 59 true (.tuple #[])).run Yba.prog w = .ok (.pointer (some ⟨w.heap.size, 0, none⟩)) (w.alloc (.cells pendZ 59)) := by kernel_rfl
theorem info59 (q n s : Int) (g : Nat) : (Yba.prog.info? 59).map (·.size) = some (pendV q n s g).toArray.size := by kernel_rfl
theorem info59l (q n s : Int) (g : Nat) : (Yba.prog.info? 59).map (·.size) = some (pendV q n s g).toArray.toList.length := by kernel_rfl
theorem info29l (n s : Int) : (Yba.prog.info? 29).map (·.size) = some (#[Value.int .u64 n, .int .i64 s, .pointer none]).toList.length := by kernel_rfl
theorem info29 (n s : Int) : (Yba.prog.info? 29).map (·.size) = some (#[Value.int .u64 n, .int .i64 s, .pointer none]).size := by kernel_rfl
theorem tim_one (n s : Int) : (#[Value.int .u64 n, .int .i64 s, .pointer none]).all (·.oneCell') = true := by simp [Value.oneCell']
theorem there_lt {w : World} {g n : Nat} (h : w.there g 0 (n + 1)) : g < w.heap.size := by
  obtain ⟨v, hv⟩ := Option.isSome_iff_exists.1 (h 0 (by omega)).1
  exact World.block_lt_of_cell? w _ hv
theorem there_below {w w' : World} {g n : Nat} (h : w.there g 0 (n + 1)) (b : Below w.heap.size w w') : w'.there g 0 (n + 1) := fun j hj => by
  have hl := there_lt h
  rw [b.cell (p := ⟨g, 0 + j, none⟩) hl, b.frozen (p := ⟨g, 0 + j, none⟩) hl]
  exact h j hj
/-- Two blocks are laid full, one behind the other. -/
theorem st2 {w : World} {x y : Nat} {a b : List Value} (hx : w.there x 0 5) (hy : w.there y 0 5) (hxy : x ≠ y) (la : a.length = 5) (lb : b.length = 5) :
    ((w.setCells x 0 a).setCells y 0 b).rangeAt x 0 a ∧ ((w.setCells x 0 a).setCells y 0 b).there x 0 5 ∧ ((w.setCells x 0 a).setCells y 0 b).rangeAt y 0 b ∧ ((w.setCells x 0 a).setCells y 0 b).there y 0 5 :=
  ⟨World.rangeAt_setCells_apart (World.rangeAt_setCells_same _ _ _ _ (by rw [la]; exact hx)) _ _ _ (.inl hxy), World.there_setCells (World.there_setCells hx _ _ _) _ _ _, World.rangeAt_setCells_same _ _ _ _ (by rw [lb]; exact World.there_setCells hy _ _ _), World.there_setCells (World.there_setCells hy _ _ _) _ _ _⟩
/-- WHAT THE LAW WANTS OF A LINK: three blocks of the round's own. -/
structure Wt (w : World) (g1 g2 g3 : Nat) (P B S : List Value) : Prop where
  rp : w.rangeAt g1 0 P
  tp : w.there g1 0 5
  rb : w.rangeAt g2 0 B
  tb : w.there g2 0 5
  rs : w.rangeAt g3 0 S
  t3 : w.there g3 0 3
  n12 : g1 ≠ g2
  n13 : g1 ≠ g3
  n23 : g2 ≠ g3
section
variable {w w' : World} {g1 g2 g3 : Nat} {P B S P' B' S' : List Value}
theorem Wt.below (h : Wt w g1 g2 g3 P B S) (b : Below w.heap.size w w') : Wt w' g1 g2 g3 P B S :=
  ⟨rangeAt_below h.rp b (there_lt h.tp), there_below h.tp b, rangeAt_below h.rb b (there_lt h.tb), there_below h.tb b, rangeAt_below h.rs b (there_lt h.t3), there_below h.t3 b, h.n12, h.n13, h.n23⟩
theorem Wt.setP (h : Wt w g1 g2 g3 P B S) (hl : P'.length = 5) : Wt (w.setCells g1 0 P') g1 g2 g3 P' B S :=
  ⟨World.rangeAt_setCells_same _ _ _ _ (by rw [hl]; exact h.tp), World.there_setCells h.tp _ _ _, World.rangeAt_setCells_apart h.rb _ _ _ (.inl h.n12.symm), World.there_setCells h.tb _ _ _, World.rangeAt_setCells_apart h.rs _ _ _ (.inl h.n13.symm), World.there_setCells h.t3 _ _ _, h.n12, h.n13, h.n23⟩
theorem Wt.setB (h : Wt w g1 g2 g3 P B S) (hl : B'.length = 5) : Wt (w.setCells g2 0 B') g1 g2 g3 P B' S :=
  ⟨World.rangeAt_setCells_apart h.rp _ _ _ (.inl h.n12), World.there_setCells h.tp _ _ _, World.rangeAt_setCells_same _ _ _ _ (by rw [hl]; exact h.tb), World.there_setCells h.tb _ _ _, World.rangeAt_setCells_apart h.rs _ _ _ (.inl h.n23.symm), World.there_setCells h.t3 _ _ _, h.n12, h.n13, h.n23⟩
theorem Wt.setS (h : Wt w g1 g2 g3 P B S) (hl : S'.length = 3) : Wt (w.setCells g3 0 S') g1 g2 g3 P B S' :=
  ⟨World.rangeAt_setCells_apart h.rp _ _ _ (.inl h.n13), World.there_setCells h.tp _ _ _, World.rangeAt_setCells_apart h.rb _ _ _ (.inl h.n23), World.there_setCells h.tb _ _ _, World.rangeAt_setCells_same _ _ _ _ (by rw [hl]; exact h.t3), World.there_setCells h.t3 _ _ _, h.n12, h.n13, h.n23⟩
end
/-- The link's parts. -/
theorem lnkC_parts {w : World} {b : Nat} {k p : Int} {rt : Nat} {cn cs sn ss p0 p1 p2 q0 q1 q2 lb : Int} (h : w.rangeAt b 0 (lnkC k p rt cn cs sn ss p0 p1 p2 q0 q1 q2 lb)) :
    w.rangeAt b 30 (pendV p0 p1 p2 rt) ∧ w.rangeAt b 35 (pendV q0 q1 q2 rt) ∧ w.rangeAt b 27 [.int .u64 sn, .int .i64 ss, .pointer none] ∧ w.cell? ⟨b, 40, none⟩ = some (.int .u64 lb) ∧ w.cell? ⟨b, 20, none⟩ = some (.slice (some ⟨rt, 0, none⟩) 1 1) := by
  refine ⟨?_, ?_, ?_, h 40 _ rfl, h 20 _ rfl⟩
  · have := range_app (w := w) (b := b) (o := 0) (xs := (lnkC k p rt cn cs sn ss p0 p1 p2 q0 q1 q2 lb).take 30) (ys := pendV p0 p1 p2 rt ++ (lnkC k p rt cn cs sn ss p0 p1 p2 q0 q1 q2 lb).drop 35)
    exact (range_app.1 (this.1 h).2).1
  · have := range_app (w := w) (b := b) (o := 0) (xs := (lnkC k p rt cn cs sn ss p0 p1 p2 q0 q1 q2 lb).take 35) (ys := pendV q0 q1 q2 rt ++ (lnkC k p rt cn cs sn ss p0 p1 p2 q0 q1 q2 lb).drop 40)
    exact (range_app.1 (this.1 h).2).1
  · have := range_app (w := w) (b := b) (o := 0) (xs := (lnkC k p rt cn cs sn ss p0 p1 p2 q0 q1 q2 lb).take 27) (ys := [.int .u64 sn, .int .i64 ss, .pointer none] ++ (lnkC k p rt cn cs sn ss p0 p1 p2 q0 q1 q2 lb).drop 30)
    exact (range_app.1 (this.1 h).2).1
/-- Loads of one cell. -/
theorem load26c {w : World} {b o : Nat} {v : Int} (hc : w.cell? ⟨b, o, none⟩ = some (.int .u64 v)) : (Instr.loadAt 26 (.pointer (some ⟨b, o, none⟩))).run Yba.prog w = .ok (.int .u64 v) w := by go_simp
theorem load50c {w : World} {b o g : Nat} (hc : w.cell? ⟨b, o, none⟩ = some (.slice (some ⟨g, 0, none⟩) 1 1)) : (Instr.loadAt 50 (.pointer (some ⟨b, o, none⟩))).run Yba.prog w = .ok (.slice (some ⟨g, 0, none⟩) 1 1) w := by go_simp
end Go.Proofs.Ybulkdwxc

/-
  6177C: the law's memory: rows of cells, the table, the links.
-/
import Derived.Test.YbulkdwxcC5
import Derived.Test.YbulkdwxcC6
import Derived.Laws.MakeOwn
import Derived.Deep.RegionHeld3
import Derived.Deep.LoopGhost
import Derived.Deep.CutRange
namespace Go.Proofs.Ybulkdwxc
open Go.RowKit Go.Maps Go.Sort

/-- n ROWS OF sz CELLS IN BLOCK g, THE FIRST i AS f SAYS. -/
structure Rw (w : World) (g n sz i : Nat) (f : Nat → List Value) : Prop where
  lt : g < w.heap.size
  th : w.there g 0 (n * sz)
  ln : ∀ j, j < i → (f j).length = sz
  at_ : ∀ j, j < i → w.rangeAt g (j * sz) (f j)

section
variable {w w' : World} {g n sz i : Nat} {f f' : Nat → List Value} {S : Nat → Prop}
theorem Rw.turn (h : Rw w g n sz i f) (T : Turn S w w') (hS : ¬ S g) : Rw w' g n sz i f :=
  ⟨by have := h.lt; have := T.size; omega, fun j hj => by rw [T.cell (p := ⟨g, 0 + j, none⟩) h.lt hS, T.frozen (p := ⟨g, 0 + j, none⟩) h.lt hS]; exact h.th j hj, h.ln, fun j hj => T.range (h.at_ j hj) h.lt hS⟩
theorem Rw.below (h : Rw w g n sz i f) (T : Below w.heap.size w w') : Rw w' g n sz i f := h.turn (S := fun _ => False) (.of_below T) id
theorem Rw.room (h : Rw w g n sz i f) {j : Nat} (hj : j < n) : w.there g (j * sz) sz := fun k hk => by
  have := h.th (j * sz + k) (by
    have : (j + 1) * sz ≤ n * sz := Nat.mul_le_mul_right _ hj
    rw [Nat.add_mul] at this
    omega)
  rwa [Nat.zero_add] at this
theorem Rw.put (h : Rw w g n sz i f) (hi : i < n) {v : List Value} (hv : v.length = sz) (hf : ∀ j, j < i → f' j = f j) (hfi : f' i = v) : Rw (w.setCells g (i * sz) v) g n sz (i + 1) f' := by
  refine ⟨?_, World.there_setCells h.th _ _ _, ?_, ?_⟩
  · have := (Turn.setCells (S := fun k => k = g) (b := g) rfl v (i * sz) w (Turn.refl _ _)).size
    have := h.lt
    omega
  · intro j hj
    rcases Nat.lt_succ_iff_lt_or_eq.1 hj with hj | hj
    · rw [hf j hj]; exact h.ln j hj
    · subst hj; rw [hfi]; exact hv
  · intro j hj
    rcases Nat.lt_succ_iff_lt_or_eq.1 hj with hj | hj
    · rw [hf j hj]
      refine World.rangeAt_setCells_apart (h.at_ j hj) _ _ _ (.inr (.inl ?_))
      rw [h.ln j hj]
      have : (j + 1) * sz ≤ i * sz := Nat.mul_le_mul_right _ hj
      rw [Nat.add_mul] at this
      omega
    · subst hj
      rw [hfi]
      exact World.rangeAt_setCells_same _ _ _ _ (by rw [hv]; exact h.room hi)
theorem Rw.mono (h : Rw w g n sz i f) (hf : ∀ j, j < i → f' j = f j) : Rw w g n sz i f' :=
  ⟨h.lt, h.th, fun j hj => by rw [hf j hj]; exact h.ln j hj, fun j hj => by rw [hf j hj]; exact h.at_ j hj⟩
/-- The cell of a row of one. -/
theorem Rw.cell {v : Nat → Value} (h : Rw w g n 1 i fun j => [v j]) {j : Nat} (hj : j < i) : w.cell? ⟨g, j, none⟩ = some (v j) := by
  have := h.at_ j hj 0 (v j) rfl
  simpa using this
/-- A made row. -/
theorem Rw.made {ts : TypeId} {C : Array Value} (hb : w.heap[g]? = some (.cells C ts)) (hC : C.size = n * sz) (f : Nat → List Value) : Rw w g n sz 0 f :=
  ⟨(Array.getElem?_eq_some_iff.1 hb).1, fun j hj => by
    rw [cell_of_row _ _ _ _ _ _ hb, Nat.zero_add, Array.getElem?_eq_getElem (by omega)]
    exact ⟨rfl, frozen_of_row _ _ _ _ _ hb⟩, fun j hj => by omega, fun j hj => by omega⟩
end

/-- A time of nanoseconds since the first. -/
def tn (d : Int) : Int := (0 + d) % 1000000000
def ts (d : Int) : Int := 0 + (0 + d) / 1000000000
theorem tn_lo (d : Int) : 0 ≤ tn d := by unfold tn; omega
theorem tn_hi (d : Int) : tn d < 1000000000 := by unfold tn; omega
theorem ts_in {d : Int} (h : -9223372036854775808 ≤ d ∧ d ≤ 9223372036854775807) : -100000000000 ≤ ts d ∧ ts d ≤ 100000000000 := by unfold ts; omega
theorem add_zero_any {d : Int} (hd : -9223372036854775808 ≤ d ∧ d ≤ 9223372036854775807) (w : World) :
    Calls Yba.prog 10 #[.agg #[.int .u64 0, .int .i64 0, .pointer none], .int .i64 d] w fun e w' => e = .returned (.agg #[.int .u64 (tn d), .int .i64 (ts d), .pointer none]) ∧ Below w.heap.size w w' :=
  add_any 0 0 d (by omega) (by omega) (by omega) hd w

/-- The members, place by place. -/
structure Md where
  K : Nat → Int
  P : Nat → Int
  A : Nat → Int
  B : Nat → Int
  C : Nat → Int
  L : Nat → Int
/-- The link that the law makes. -/
def Md.lnk (M : Md) (rp : Nat → Nat) (j : Nat) : List Value := lnkC (M.K j) (M.P j) (rp j) (tn (M.C j)) (ts (M.C j)) 0 0 (M.A j) 0 0 (M.B j) 0 0 (M.L j)
def pendV (q n s : Int) (rt : Nat) : List Value := [.int .u64 q, .int .u64 n, .int .i64 s, .pointer none, .slice (some ⟨rt, 0, none⟩) 1 1]
def upd (f : Nat → Nat) (i v : Nat) : Nat → Nat := fun j => if j = i then v else f j
theorem upd_same (f : Nat → Nat) (i v : Nat) : upd f i v i = v := if_pos rfl
theorem upd_lt {f : Nat → Nat} {i v j : Nat} (h : j < i) : upd f i v j = f j := if_neg (by omega)

/-- THE TABLE, THE TIMINGS, THE DEAD, THE NUMBER. -/
structure Bs (w : World) (gq gm gt : Nat) (r : Option Nat) (Ks : List (List Int)) (nd : Nat) (rq tick dig : Int) : Prop where
  cq : w.cell? ⟨gq, 0, none⟩ = some (.int .u64 rq)
  ck : w.cell? ⟨gm, 1, none⟩ = some (.int .i64 tick)
  t20 : w.cell? ⟨gt, 20, none⟩ = some (.pointer (some ⟨gm, 0, none⟩))
  t21 : w.cell? ⟨gt, 21, none⟩ = some (.map r)
  t24 : w.cell? ⟨gt, 24, none⟩ = some (.int .u64 dig)
  tf : ∀ j, w.frozen? ⟨gt, j, none⟩ = false
  dd : DeadIs w r Ks nd
section
variable {w w' : World} {gq gm gt : Nat} {r : Option Nat} {Ks : List (List Int)} {nd : Nat} {rq tick dig : Int} {S : Nat → Prop}
theorem Bs.turn (h : Bs w gq gm gt r Ks nd rq tick dig) (T : Turn S w w') (s1 : ¬ S gq) (s2 : ¬ S gm) (s3 : ¬ S gt) (s4 : ∀ b, r = some b → ¬ S b) : Bs w' gq gm gt r Ks nd rq tick dig :=
  ⟨(T.cell (World.block_lt_of_cell? w _ h.cq) s1).trans h.cq, (T.cell (World.block_lt_of_cell? w _ h.ck) s2).trans h.ck, (T.cell (World.block_lt_of_cell? w _ h.t20) s3).trans h.t20, (T.cell (World.block_lt_of_cell? w _ h.t21) s3).trans h.t21,
    (T.cell (World.block_lt_of_cell? w _ h.t24) s3).trans h.t24, fun j => (T.frozen (p := ⟨gt, j, none⟩) (show gt < _ from World.block_lt_of_cell? w ⟨gt, 20, none⟩ h.t20) s3).trans (h.tf j), h.dd.kept fun b hb hlt => T.block b hlt (s4 b hb)⟩
theorem Bs.below (h : Bs w gq gm gt r Ks nd rq tick dig) (T : Below w.heap.size w w') : Bs w' gq gm gt r Ks nd rq tick dig := h.turn (S := fun _ => False) (.of_below T) id id id fun _ _ => id
end

/-- THE LINKS MADE SO FAR. -/
structure Lk (w : World) (B i : Nat) (lp rp : Nat → Nat) (M : Md) : Prop where
  at_ : ∀ j, j < i → w.heap[lp j]? = some (.cells (M.lnk rp j).toArray 68)
  lo : ∀ j, j < i → B ≤ lp j
  ne : ∀ j k, j < i → k < i → j ≠ k → lp j ≠ lp k
section
variable {w w' : World} {B i : Nat} {lp rp : Nat → Nat} {M : Md} {S : Nat → Prop}
theorem Lk.lt (h : Lk w B i lp rp M) {j : Nat} (hj : j < i) : lp j < w.heap.size := (Array.getElem?_eq_some_iff.1 (h.at_ j hj)).1
theorem Lk.turn (h : Lk w B i lp rp M) (T : Turn S w w') (hS : ∀ j, j < i → ¬ S (lp j)) : Lk w' B i lp rp M :=
  ⟨fun j hj => (T.block _ (h.lt hj) (hS j hj)).trans (h.at_ j hj), h.lo, h.ne⟩
theorem Lk.below (h : Lk w B i lp rp M) (T : Below w.heap.size w w') : Lk w' B i lp rp M := h.turn (S := fun _ => False) (.of_below T) fun _ _ => id
theorem Lk.grow (h : Lk w B i lp rp M) {gl gr : Nat} (hb : w.heap[gl]? = some (.cells (lnkC (M.K i) (M.P i) gr (tn (M.C i)) (ts (M.C i)) 0 0 (M.A i) 0 0 (M.B i) 0 0 (M.L i)).toArray 68)) (hB : B ≤ gl) (hn : ∀ j, j < i → lp j ≠ gl) :
    Lk w B (i + 1) (upd lp i gl) (upd rp i gr) M := by
  refine ⟨fun j hj => ?_, fun j hj => ?_, fun j k hj hk hjk => ?_⟩
  · rcases Nat.lt_succ_iff_lt_or_eq.1 hj with hj | hj
    · have := h.at_ j hj
      unfold Md.lnk at *
      rwa [upd_lt hj, upd_lt hj]
    · subst hj
      unfold Md.lnk
      rwa [upd_same, upd_same]
  · rcases Nat.lt_succ_iff_lt_or_eq.1 hj with hj | hj
    · rw [upd_lt hj]; exact h.lo j hj
    · subst hj; rwa [upd_same]
  · rcases Nat.lt_succ_iff_lt_or_eq.1 hj with hj | hj
    · rw [upd_lt hj]
      rcases Nat.lt_succ_iff_lt_or_eq.1 hk with hk | hk
      · rw [upd_lt hk]; exact h.ne j k hj hk hjk
      · subst hk; rw [upd_same]; exact hn j hj
    · subst hj
      rw [upd_same, upd_lt (show k < j by omega)]
      exact fun e => hn k (by omega) e.symm
theorem Lk.none (w : World) (B : Nat) (lp rp : Nat → Nat) (M : Md) : Lk w B 0 lp rp M := ⟨fun j hj => by omega, fun j hj => by omega, fun j k hj => by omega⟩
end

/-! The operations. -/
theorem buildS50 (k p : Int) (w : World) : (Instr.buildSlice 50 1 #[(0, .agg (peerP (idk k) p))]).run Yba.prog w = .ok (.slice (some ⟨w.heap.size, 0, none⟩) 1 1) (w.alloc (.cells (peerP (idk k) p) 46)) := by kernel_rfl
theorem build57C (k p : Int) (w : World) : (Instr.build 57 #[(0, .agg (peerP (idk k) p))]).run Yba.prog w = .ok (.agg (peerP (idk k) p)) w := by kernel_rfl
theorem build59C (q : Int) (g : Nat) (w : World) : (Instr.build 59 #[(0, .int .u64 q), (2, .slice (some ⟨g, 0, none⟩) 1 1)]).run Yba.prog w = .ok (.agg (pendV q 0 0 g).toArray) w := by kernel_rfl
theorem build59D (q n s : Int) (g : Nat) (w : World) : (Instr.build 59 #[(0, .int .u64 q), (1, .agg #[.int .u64 n, .int .i64 s, .pointer none]), (2, .slice (some ⟨g, 0, none⟩) 1 1)]).run Yba.prog w = .ok (.agg (pendV q n s g).toArray) w := by kernel_rfl
theorem build68C (k p : Int) (g : Nat) (cn cs a b l : Int) (w : World) : (Instr.build 68 #[(0, .agg (peerP (idk k) p)), (1, .slice (some ⟨g, 0, none⟩) 1 1), (3, .agg #[.int .u64 cn, .int .i64 cs, .pointer none]), (5, .agg (pendV a 0 0 g).toArray), (6, .agg (pendV b 0 0 g).toArray), (7, .int .u64 l)]).run Yba.prog w
    = .ok (.agg (lnkC k p g cn cs 0 0 a 0 0 b 0 0 l).toArray) w := by kernel_rfl
theorem build34C (tick : Int) (w : World) : (Instr.build 34 #[(1, .int .i64 tick)]).run Yba.prog w = .ok (.agg #[.int .i64 0, .int .i64 tick, .int .i64 0, .int .i64 0, .int .i64 0, .int .i64 0, .int .i64 0, .int .i64 0, .int .i64 0, .int .i64 0, .int .i64 0, .int .i64 0, .int .i64 0]) w := by kernel_rfl
theorem build41C (w : World) : (Instr.build 41 #[]).run Yba.prog w = .ok (.agg #[.int .u64 0, .int .u64 0, .pointer none]) w := by kernel_rfl

theorem make_any (t e : TypeId) (sz : Nat) (ht : Yba.prog.underlying t = some (.slice e)) (hi : ∃ i z, Yba.prog.info? e = some i ∧ i.zero = some z ∧ i.size = sz ∧ i.bytes ≤ 65536) (n : Nat) (hn : n ≤ 65536) :
    ∃ C : Array Value, C.size = n * sz ∧ ∀ w, (Instr.makeSlice t (.int .i64 n) (.int .i64 n)).run Yba.prog w = .ok (.slice (some ⟨w.heap.size, 0, none⟩) n n) (w.alloc (.cells C e)) := by
  obtain ⟨i, z, h1, h2, h3, h4⟩ := hi
  refine ⟨madeCells z.cells (n * sz), size_madeCells _ _, fun w => ?_⟩
  have := run_make w t e i z ht h1 h2 .i64 .i64 n n (by omega) (by omega) (by
    have : i.bytes * n ≤ 65536 * 65536 := Nat.mul_le_mul h4 hn
    have h5 : ((i.bytes * n : Nat) : Int) ≤ ((65536 * 65536 : Nat) : Int) := by exact_mod_cast this
    rw [Int.natCast_mul] at h5
    omega) (by omega)
  rw [h3] at this
  simpa using this
def infoOk (P : Program) (e : TypeId) (sz : Nat) : Bool := match P.info? e with | some i => i.zero.isSome && i.size == sz && decide (i.bytes ≤ 65536) | none => false
theorem info_of {e : TypeId} {sz : Nat} (h : infoOk Yba.prog e sz = true) : ∃ i z, Yba.prog.info? e = some i ∧ i.zero = some z ∧ i.size = sz ∧ i.bytes ≤ 65536 := by
  unfold infoOk at h
  split at h
  · rename_i i hi
    simp only [Bool.and_eq_true, Option.isSome_iff_exists, beq_iff_eq, decide_eq_true_eq] at h
    obtain ⟨⟨⟨z, hz⟩, hs⟩, hb⟩ := h
    exact ⟨i, z, hi, hz, hs, hb⟩
  · cases h
theorem make47 (n : Nat) (hn : n ≤ 65536) : ∃ C : Array Value, C.size = n * 1 ∧ ∀ w, (Instr.makeSlice 47 (.int .i64 n) (.int .i64 n)).run Yba.prog w = .ok (.slice (some ⟨w.heap.size, 0, none⟩) n n) (w.alloc (.cells C 56)) := make_any 47 56 1 Yba.underlying47 (info_of (by kernel_rfl)) n hn
theorem make48 (n : Nat) (hn : n ≤ 65536) : ∃ C : Array Value, C.size = n * 16 ∧ ∀ w, (Instr.makeSlice 48 (.int .i64 n) (.int .i64 n)).run Yba.prog w = .ok (.slice (some ⟨w.heap.size, 0, none⟩) n n) (w.alloc (.cells C 30)) := make_any 48 30 16 Yba.underlying48 (info_of (by kernel_rfl)) n hn
theorem make49 (n : Nat) (hn : n ≤ 65536) : ∃ C : Array Value, C.size = n * 1 ∧ ∀ w, (Instr.makeSlice 49 (.int .i64 n) (.int .i64 n)).run Yba.prog w = .ok (.slice (some ⟨w.heap.size, 0, none⟩) n n) (w.alloc (.cells C 50)) := make_any 49 50 1 Yba.underlying49 (info_of (by kernel_rfl)) n hn
theorem make74 (n : Nat) (hn : n ≤ 65536) : ∃ C : Array Value, C.size = n * 5 ∧ ∀ w, (Instr.makeSlice 74 (.int .i64 n) (.int .i64 n)).run Yba.prog w = .ok (.slice (some ⟨w.heap.size, 0, none⟩) n n) (w.alloc (.cells C 59)) := make_any 74 59 5 Yba.underlying74 (info_of (by kernel_rfl)) n hn
end Go.Proofs.Ybulkdwxc

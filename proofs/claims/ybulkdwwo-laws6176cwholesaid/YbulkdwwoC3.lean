import Derived.Test.YbulkdwwoC2
namespace Go.Proofs.Ybulkdwwo
open Go.RowKit

/-- What the law reads of the Consumption that it builds. -/
structure Co (C : Array Value) (b m e i : Int) (nw : Bool) (mm mb st aw bb be by_ : Int) : Prop where
  k0 : C[0]? = some (.int .i64 b)
  k1 : C[1]? = some (.int .i64 m)
  k2 : C[2]? = some (.int .i64 e)
  k3 : C[3]? = some (.int .i64 i)
  k4 : C[4]? = some (.bool nw)
  k5 : C[5]? = some (.int .i64 mm)
  k6 : C[6]? = some (.int .i64 mb)
  k9 : C[9]? = some (.int .i64 st)
  k22 : C[22]? = some (.int .i64 bb)
  k23 : C[23]? = some (.int .i64 be)
  k24 : C[24]? = some (.int .i64 by_)
  k27 : C[27]? = some (.int .i64 aw)

/-- The world at the call of nextPull. -/
def Lw (w : World) (b m e i : Int) (nw : Bool) (mm mb st aw bb be by_ ho hm buf bufB : Int) (idle : Bool) (C : Array Value) : World :=
  ((((w.alloc (.cells #[.int .i64 b, .int .i64 m, .int .i64 e, .int .i64 i, .bool nw, .int .i64 mm, .int .i64 mb, .int .i64 st, .int .i64 aw, .int .i64 bb, .int .i64 be, .int .i64 by_, .int .i64 ho, .int .i64 hm, .int .i64 buf, .int .i64 bufB, .bool idle] 37)).alloc (.cells #[.int .i64 b, .int .i64 m, .int .i64 e, .int .i64 i, .bool nw] 39)).alloc (.cells #[.int .i64 bb, .int .i64 be, .int .i64 by_] 41)).alloc (.cells C 91)).alloc
    (.cells #[.int .i64 ho, .int .i64 hm, .int .i64 buf, .int .i64 bufB, .bool idle] 93)

/-- What stays of it. -/
structure Kp (w' : World) (n : Nat) (b m e i : Int) (nw : Bool) (mm mb st aw bb be by_ ho hm buf bufB : Int) (idle : Bool) (C : Array Value) : Prop where
  h0 : w'.heap[n]? = some (.cells #[.int .i64 b, .int .i64 m, .int .i64 e, .int .i64 i, .bool nw, .int .i64 mm, .int .i64 mb, .int .i64 st, .int .i64 aw, .int .i64 bb, .int .i64 be, .int .i64 by_, .int .i64 ho, .int .i64 hm, .int .i64 buf, .int .i64 bufB, .bool idle] 37 (0, 0))
  h1 : w'.heap[n + 1]? = some (.cells #[.int .i64 b, .int .i64 m, .int .i64 e, .int .i64 i, .bool nw] 39 (0, 0))
  h2 : w'.heap[n + 1 + 1]? = some (.cells #[.int .i64 bb, .int .i64 be, .int .i64 by_] 41 (0, 0))
  h3 : w'.heap[n + 1 + 1 + 1]? = some (.cells C 91 (0, 0))
  sz : n + 5 ≤ w'.heap.size

section
variable {w : World} {b m e i : Int} {nw : Bool} {mm mb st aw bb be by_ ho hm buf bufB : Int} {idle : Bool} {C : Array Value}
theorem Lw_keeps : Kp (Lw w b m e i nw mm mb st aw bb be by_ ho hm buf bufB idle C) w.heap.size b m e i nw mm mb st aw bb be by_ ho hm buf bufB idle C := by
  unfold Lw
  refine ⟨?_, ?_, ?_, ?_, by simp⟩
  · rw [Below.heap_alloc _ _ _ (by simp <;> omega), Below.heap_alloc _ _ _ (by simp <;> omega), Below.heap_alloc _ _ _ (by simp <;> omega), Below.heap_alloc _ _ _ (by simp)]
    exact heap_alloc_new w _
  · rw [Below.heap_alloc _ _ _ (by simp <;> omega), Below.heap_alloc _ _ _ (by simp <;> omega), Below.heap_alloc _ _ _ (by simp)]
    have := heap_alloc_new (w.alloc (.cells #[.int .i64 b, .int .i64 m, .int .i64 e, .int .i64 i, .bool nw, .int .i64 mm, .int .i64 mb, .int .i64 st, .int .i64 aw, .int .i64 bb, .int .i64 be, .int .i64 by_, .int .i64 ho, .int .i64 hm, .int .i64 buf, .int .i64 bufB, .bool idle] 37)) (.cells #[.int .i64 b, .int .i64 m, .int .i64 e, .int .i64 i, .bool nw] 39)
    rwa [World.size_alloc] at this
  · rw [Below.heap_alloc _ _ _ (by simp <;> omega), Below.heap_alloc _ _ _ (by simp)]
    have := heap_alloc_new ((w.alloc (.cells #[.int .i64 b, .int .i64 m, .int .i64 e, .int .i64 i, .bool nw, .int .i64 mm, .int .i64 mb, .int .i64 st, .int .i64 aw, .int .i64 bb, .int .i64 be, .int .i64 by_, .int .i64 ho, .int .i64 hm, .int .i64 buf, .int .i64 bufB, .bool idle] 37)).alloc (.cells #[.int .i64 b, .int .i64 m, .int .i64 e, .int .i64 i, .bool nw] 39)) (.cells #[.int .i64 bb, .int .i64 be, .int .i64 by_] 41)
    rwa [World.size_alloc, World.size_alloc] at this
  · rw [Below.heap_alloc _ _ _ (by simp)]
    have := heap_alloc_new (((w.alloc (.cells #[.int .i64 b, .int .i64 m, .int .i64 e, .int .i64 i, .bool nw, .int .i64 mm, .int .i64 mb, .int .i64 st, .int .i64 aw, .int .i64 bb, .int .i64 be, .int .i64 by_, .int .i64 ho, .int .i64 hm, .int .i64 buf, .int .i64 bufB, .bool idle] 37)).alloc (.cells #[.int .i64 b, .int .i64 m, .int .i64 e, .int .i64 i, .bool nw] 39)).alloc (.cells #[.int .i64 bb, .int .i64 be, .int .i64 by_] 41)) (.cells C 91)
    rwa [World.size_alloc, World.size_alloc, World.size_alloc] at this

theorem Lw_below : Below w.heap.size w (Lw w b m e i nw mm mb st aw bb be by_ ho hm buf bufB idle C) :=
  (((((Below.refl _ _).alloc (Nat.le_refl _) _).alloc (by simp) _).alloc (by simp <;> omega) _).alloc (by simp <;> omega) _).alloc (by simp <;> omega) _

theorem Kp.on {w1 w2 : World} {n B : Nat} (h : Kp w1 n b m e i nw mm mb st aw bb be by_ ho hm buf bufB idle C) (hb : Below B w1 w2) (hB : n + 5 ≤ B) : Kp w2 n b m e i nw mm mb st aw bb be by_ ho hm buf bufB idle C :=
  ⟨(hb.block _ (by omega)).trans h.h0, (hb.block _ (by omega)).trans h.h1, (hb.block _ (by omega)).trans h.h2, (hb.block _ (by omega)).trans h.h3, Nat.le_trans h.sz hb.size⟩
end

set_option maxRecDepth 100000 in
set_option maxHeartbeats 800000 in
theorem c_walk (b m e i : Int) (nw : Bool) (mm mb st aw bb be by_ ho hm buf bufB : Int) (idle : Bool) (w : World) :
    Calls Yba.prog 4 #[.agg #[.int .i64 b, .int .i64 m, .int .i64 e, .int .i64 i, .bool nw, .int .i64 mm, .int .i64 mb, .int .i64 st, .int .i64 aw, .int .i64 bb, .int .i64 be, .int .i64 by_, .int .i64 ho, .int .i64 hm, .int .i64 buf, .int .i64 bufB, .bool idle]] w fun e' w' =>
      e' = .returned (.bool true) ∧ Below w.heap.size w w' := by
  go_enter Yba.func4, Yba.ntmps4
  go_upto_region 3 with fail
  go_cut [5] (fun s5 wx => ∃ C, s5 = .pointer (some ⟨w.heap.size + 1 + 1 + 1, 0, none⟩) ∧ Co C b m e i nw mm mb st aw bb be by_ ∧ wx = (((w.alloc (.cells #[.int .i64 b, .int .i64 m, .int .i64 e, .int .i64 i, .bool nw, .int .i64 mm, .int .i64 mb, .int .i64 st, .int .i64 aw, .int .i64 bb, .int .i64 be, .int .i64 by_, .int .i64 ho, .int .i64 hm, .int .i64 buf, .int .i64 bufB, .bool idle] 37)).alloc (.cells #[.int .i64 b, .int .i64 m, .int .i64 e, .int .i64 i, .bool nw] 39)).alloc (.cells #[.int .i64 bb, .int .i64 be, .int .i64 by_] 41)).alloc (.cells C 91))
  case first =>
    go_wp2_with fail
    go_meet
    refine ⟨_, rfl, ?_, rfl⟩
    constructor <;> simp
  case rest =>
    obtain ⟨C, rfl, hC, rfl⟩ := hcut
    go_wp2_with fail
    have K0 : Kp _ _ b m e i nw mm mb st aw bb be by_ ho hm buf bufB idle C := Lw_keeps (w := w)
    have cc := fun j => cell_of_row _ _ j _ _ _ K0.h3
    refine (next_any (w.heap.size + 1 + 1 + 1) b m e i nw mm mb st bb be by_ aw ho hm buf bufB idle (Lw w b m e i nw mm mb st aw bb be by_ ho hm buf bufB idle C) ((cc 0).trans hC.k0) ((cc 1).trans hC.k1) ((cc 2).trans hC.k2) ((cc 3).trans hC.k3) ((cc 4).trans hC.k4) ((cc 5).trans hC.k5) ((cc 6).trans hC.k6) ((cc 9).trans hC.k9) ((cc 22).trans hC.k22) ((cc 23).trans hC.k23) ((cc 24).trans hC.k24) ((cc 27).trans hC.k27)).mono ?_
    rintro e' w1 ⟨rfl, hb1⟩
    have K1 := K0.on hb1 K0.sz
    have B1 := Lw_below.trans (hb1.mono (B' := w.heap.size) (by have := K0.sz; omega))
    clear cc K0 hb1
    have MA := fun wx => model_any b m e i nw mm mb st aw bb be by_ ho hm buf bufB idle wx
    generalize bd (ns (nb mb bufB mm aw buf) st ho hm aw) bb = X at MA ⊢
    generalize bd (nm mb bufB m) by_ = Y at MA ⊢
    have hsz := K1.sz
    go_upto_region 6 with fail
    go_cut [59] (fun s wx => s = .bool false ∧ Kp wx w.heap.size b m e i nw mm mb st aw bb be by_ ho hm buf bufB idle C ∧ Below w.heap.size w wx)
    case first =>
      have cc := fun j => cell_of_row _ _ j _ _ _ K1.h0
      have c0 : w1.cell? ⟨w.heap.size, 0, none⟩ = some (.int .i64 b) := cc 0
      have c1 : w1.cell? ⟨w.heap.size, 1, none⟩ = some (.int .i64 m) := cc 1
      have c2 : w1.cell? ⟨w.heap.size, 2, none⟩ = some (.int .i64 e) := cc 2
      have c3 : w1.cell? ⟨w.heap.size, 3, none⟩ = some (.int .i64 i) := cc 3
      have c4 : w1.cell? ⟨w.heap.size, 4, none⟩ = some (.bool nw) := cc 4
      have c5 : w1.cell? ⟨w.heap.size, 5, none⟩ = some (.int .i64 mm) := cc 5
      have c6 : w1.cell? ⟨w.heap.size, 6, none⟩ = some (.int .i64 mb) := cc 6
      have c7 : w1.cell? ⟨w.heap.size, 7, none⟩ = some (.int .i64 st) := cc 7
      have c8 : w1.cell? ⟨w.heap.size, 8, none⟩ = some (.int .i64 aw) := cc 8
      have c9 : w1.cell? ⟨w.heap.size, 9, none⟩ = some (.int .i64 bb) := cc 9
      have c10 : w1.cell? ⟨w.heap.size, 10, none⟩ = some (.int .i64 be) := cc 10
      have c11 : w1.cell? ⟨w.heap.size, 11, none⟩ = some (.int .i64 by_) := cc 11
      have c12 : w1.cell? ⟨w.heap.size, 12, none⟩ = some (.int .i64 ho) := cc 12
      have c13 : w1.cell? ⟨w.heap.size, 13, none⟩ = some (.int .i64 hm) := cc 13
      have c14 : w1.cell? ⟨w.heap.size, 14, none⟩ = some (.int .i64 buf) := cc 14
      have c15 : w1.cell? ⟨w.heap.size, 15, none⟩ = some (.int .i64 bufB) := cc 15
      have c16 : w1.cell? ⟨w.heap.size, 16, none⟩ = some (.bool idle) := cc 16
      have hlt : w.heap.size < w1.heap.size := by omega
      clear cc
      have BG : ∀ w2, Below (w1.heap.size + 1) (w1.alloc (.cells #[.int .i64 X, .int .i64 Y, .int .i64 e, .int .i64 i, .bool nw] 39)).drew w2 → Kp w2 w.heap.size b m e i nw mm mb st aw bb be by_ ho hm buf bufB idle C ∧ Below w.heap.size w w2 ∧
          w2.cell? ⟨w1.heap.size, 0, none⟩ = some (.int .i64 X) ∧ w2.cell? ⟨w1.heap.size, 1, none⟩ = some (.int .i64 Y) ∧ w2.cell? ⟨w1.heap.size, 2, none⟩ = some (.int .i64 e) ∧ w2.cell? ⟨w1.heap.size, 3, none⟩ = some (.int .i64 i) ∧ w2.cell? ⟨w1.heap.size, 4, none⟩ = some (.bool nw) := by
        intro w2 hb2
        have hA : Below (w1.heap.size) w1 (w1.alloc (.cells #[.int .i64 X, .int .i64 Y, .int .i64 e, .int .i64 i, .bool nw] 39)).drew := ((Below.refl _ _).alloc (Nat.le_refl _) _).drew
        have hz : (w1.alloc (.cells #[.int .i64 X, .int .i64 Y, .int .i64 e, .int .i64 i, .bool nw] 39)).drew.heap.size = w1.heap.size + 1 := by simp
        obtain ⟨f0, f1, f2, f3, f4, _⟩ := five (W := (w1.alloc (.cells #[.int .i64 X, .int .i64 Y, .int .i64 e, .int .i64 i, .bool nw] 39)).drew) (A := w1.heap.size) (by rw [hz]; exact hb2) (by rw [hz]; omega) (heap_alloc_new w1 _)
        exact ⟨K1.on (hA.trans (hb2.mono (by omega))) hsz, B1.trans ((hA.trans (hb2.mono (by omega))).mono (by omega)), f0, f1, f2, f3, f4⟩
      clear K1 B1 hC
      go_region_with (go_at_call 7; refine (MA _).mono ?_; rintro e' w2 ⟨rfl, hb2⟩; obtain ⟨r1, r2, f0, f1, f2, f3, f4⟩ := BG w2 (by simpa using hb2))
      all_goals go_wp2_with fail
      all_goals go_meet
      all_goals exact ⟨rfl, r1, r2⟩
    case rest =>
      obtain ⟨rfl, K2, B2⟩ := hcut
      clear K1 B1 MA hsz
      have d0 := fun j => cell_of_row _ _ j _ _ _ K2.h0
      have d1 := fun j => cell_of_row _ _ j _ _ _ K2.h1
      have d2 := fun j => cell_of_row _ _ j _ _ _ K2.h2
      have d3 := fun j => cell_of_row _ _ j _ _ _ K2.h3
      have c5 : wc.cell? ⟨w.heap.size, 5, none⟩ = some (.int .i64 mm) := d0 5
      have c6 : wc.cell? ⟨w.heap.size, 6, none⟩ = some (.int .i64 mb) := d0 6
      have c7 : wc.cell? ⟨w.heap.size, 7, none⟩ = some (.int .i64 st) := d0 7
      have c8 : wc.cell? ⟨w.heap.size, 8, none⟩ = some (.int .i64 aw) := d0 8
      have f0 : wc.cell? ⟨w.heap.size + 1, 0, none⟩ = some (.int .i64 b) := d1 0
      have f1 : wc.cell? ⟨w.heap.size + 1, 1, none⟩ = some (.int .i64 m) := d1 1
      have f2 : wc.cell? ⟨w.heap.size + 1, 2, none⟩ = some (.int .i64 e) := d1 2
      have f3 : wc.cell? ⟨w.heap.size + 1, 3, none⟩ = some (.int .i64 i) := d1 3
      have f4 : wc.cell? ⟨w.heap.size + 1, 4, none⟩ = some (.bool nw) := d1 4
      have g0 : wc.cell? ⟨w.heap.size + 1 + 1, 0, none⟩ = some (.int .i64 bb) := d2 0
      have g1 : wc.cell? ⟨w.heap.size + 1 + 1, 1, none⟩ = some (.int .i64 be) := d2 1
      have g2 : wc.cell? ⟨w.heap.size + 1 + 1, 2, none⟩ = some (.int .i64 by_) := d2 2
      have k0 := (d3 0).trans hC.k0
      have k1 := (d3 1).trans hC.k1
      have k2 := (d3 2).trans hC.k2
      have k3 := (d3 3).trans hC.k3
      have k4 := (d3 4).trans hC.k4
      have k5 := (d3 5).trans hC.k5
      have k6 := (d3 6).trans hC.k6
      have k9 := (d3 9).trans hC.k9
      have k22 := (d3 22).trans hC.k22
      have k23 := (d3 23).trans hC.k23
      have k24 := (d3 24).trans hC.k24
      have k27 := (d3 27).trans hC.k27
      clear d0 d1 d2 d3 K2 hC
      go_wp2
      go_quiet (fail)
      go_wp2
      go_quiet (fail)
      go_wp2
      go_ret
      exact ⟨rfl, below_drewN (below_drewN B2 _) _⟩
end Go.Proofs.Ybulkdwwo

import Derived.Test.YbulkdwxcA3
import Derived.Lib.QuietBelow
import Derived.BigQuiet
namespace Go.Proofs.Ybulkdwxc
open Go.RowKit Go.Maps Go.Sort

/-- What 'state' says. -/
def stateT (dead : Bool) (d1 d2 per : Int) : Int := if dead = true then 2 else if d1 < per ∧ d2 < per then 0 else 1

set_option maxRecDepth 100000 in
set_option maxHeartbeats 400000 in
theorem state_in (gt gl gm : Nat) (X : Array Value) (I : List Int) (r : Option Nat) (Ks : List (List Int)) (n : Nat) (nn ns hn hs cn cs per : Int) (hX : X.size = 20) (h1 : X.all (·.oneCell') = true) (hI : Id16 I) (hXI : X.extract 0 16 = idv I) (hnn : n ≤ 65536)
    (w : World) (hr : w.rangeAt gl 0 X.toList) (hgl : gl < w.heap.size) (hgt : w.cell? ⟨gt, 21, none⟩ = some (.map r)) (hgm : w.cell? ⟨gt, 20, none⟩ = some (.pointer (some ⟨gm, 0, none⟩))) (hper : w.cell? ⟨gm, 0, none⟩ = some (.int .i64 per))
    (l0 : w.cell? ⟨gl, 21, none⟩ = some (.int .u64 hn)) (l1 : w.cell? ⟨gl, 22, none⟩ = some (.int .i64 hs)) (l2 : w.cell? ⟨gl, 23, none⟩ = some (.pointer none))
    (k0 : w.cell? ⟨gl, 24, none⟩ = some (.int .u64 cn)) (k1 : w.cell? ⟨gl, 25, none⟩ = some (.int .i64 cs)) (k2 : w.cell? ⟨gl, 26, none⟩ = some (.pointer none))
    (hd : DeadIs w r Ks n) (dead : Bool) (hdead : Hid (decide (I ∈ Ks) = dead)) (d1 d2 : Int)
    (S1 : ∀ w, Calls Yba.prog 13 #[.agg #[.int .u64 nn, .int .i64 ns, .pointer none], .agg #[.int .u64 hn, .int .i64 hs, .pointer none]] w fun e w' => e = .returned (.int .i64 d1) ∧ Below w.heap.size w w')
    (S2 : ∀ w, Calls Yba.prog 13 #[.agg #[.int .u64 nn, .int .i64 ns, .pointer none], .agg #[.int .u64 cn, .int .i64 cs, .pointer none]] w fun e w' => e = .returned (.int .i64 d2) ∧ Below w.heap.size w w') :
    Calls Yba.prog 7 #[.pointer (some ⟨gt, 0, none⟩), .pointer (some ⟨gl, 0, none⟩), .agg #[.int .u64 nn, .int .i64 ns, .pointer none]] w fun e w' => e = .returned (.int .i64 (stateT dead d1 d2 per)) ∧ Below w.heap.size w w' := by
  go_enter Yba.func7, Yba.ntmps7
  go_wp2_with fail
  have bw : Below w.heap.size w (w.alloc (.cells #[.int .u64 nn, .int .i64 ns, .pointer none] 29)) := (Below.refl _ _).alloc (Nat.le_refl _) _
  have hgt' := World.block_lt_of_cell? w _ hgt
  have hgm' := World.block_lt_of_cell? w _ hper
  refine (dead_any gt gl X I r Ks n hX h1 hI hXI hnn _ (rangeAt_below hr bw hgl) (by simp; omega) ((bw.cell (p := ⟨gt, 21, none⟩) hgt').trans hgt) (hd.below bw)).mono ?_
  rintro e w1 ⟨rfl, hb1⟩
  rw [hdead.out]
  have hz1 := hb1.size
  have hs1 : w.heap.size < w1.heap.size := by simp at hz1; omega
  have bw1 : Below w.heap.size w w1 := bw.trans (hb1.mono (by simp))
  have x0 : w1.cell? ⟨w.heap.size, 0, none⟩ = some (.int .u64 nn) := (hb1.cell (p := ⟨w.heap.size, 0, none⟩) (by simp)).trans (by go_simp)
  have x1 : w1.cell? ⟨w.heap.size, 1, none⟩ = some (.int .i64 ns) := (hb1.cell (p := ⟨w.heap.size, 1, none⟩) (by simp)).trans (by go_simp)
  have x2 : w1.cell? ⟨w.heap.size, 2, none⟩ = some (.pointer none) := (hb1.cell (p := ⟨w.heap.size, 2, none⟩) (by simp)).trans (by go_simp)
  replace hgm := (bw1.cell (p := ⟨gt, 20, none⟩) hgt').trans hgm
  replace hper := (bw1.cell (p := ⟨gm, 0, none⟩) hgm').trans hper
  replace l0 := (bw1.cell (p := ⟨gl, 21, none⟩) hgl).trans l0
  replace l1 := (bw1.cell (p := ⟨gl, 22, none⟩) hgl).trans l1
  replace l2 := (bw1.cell (p := ⟨gl, 23, none⟩) hgl).trans l2
  replace k0 := (bw1.cell (p := ⟨gl, 24, none⟩) hgl).trans k0
  replace k1 := (bw1.cell (p := ⟨gl, 25, none⟩) hgl).trans k1
  replace k2 := (bw1.cell (p := ⟨gl, 26, none⟩) hgl).trans k2
  clear hd hr bw hb1 hgt hdead
  cases dead
  case true =>
    go_wp2_with fail
    go_ret
    exact ⟨rfl, bw1⟩
  case false =>
    go_upto_region 3 with fail
    replace hgm := cell_regrown hgm
    replace hper := cell_regrown hper
    replace l0 := cell_regrown l0
    replace l1 := cell_regrown l1
    replace l2 := cell_regrown l2
    replace k0 := cell_regrown k0
    replace k1 := cell_regrown k1
    replace k2 := cell_regrown k2
    replace x0 := cell_regrown x0
    replace x1 := cell_regrown x1
    replace x2 := cell_regrown x2
    have C1 := fun d os => Calls.regrown_of (S1 (grow (redrawn w1 d) os))
    have C2 := fun d os => Calls.regrown_of (S2 (grow (redrawn w1 d) os))
    clear S1 S2 hz1 hs1
    by_cases hlt : d1 < per
    · by_cases hlt2 : d2 < per
      · refine wp_region_quiet_below (by kernel_rfl) (by kernel_rfl) ?_
        repeat (go_big_quiet_step (first | with_reducible exact C1 _ _ | with_reducible exact C2 _ _))
        refine wpQuiet_nil ?_
        rintro w2 ⟨⟨dq, oq⟩, rfl⟩
        have E : Hid (stateT false d1 d2 per = 0) := by show _ = _; simp [stateT, hlt, hlt2]
        have bq := bw1.trans ((below_regrown w1 dq oq).mono bw1.size)
        go_wp2_with fail
        go_ret
        exact ⟨by rw [E.out]; rfl, bq⟩
      · refine wp_region_quiet_below (by kernel_rfl) (by kernel_rfl) ?_
        repeat (go_big_quiet_step (first | with_reducible exact C1 _ _ | with_reducible exact C2 _ _))
        refine wpQuiet_nil ?_
        rintro w2 ⟨⟨dq, oq⟩, rfl⟩
        have E : Hid (stateT false d1 d2 per = 1) := by show _ = _; simp [stateT, hlt2]
        have bq := bw1.trans ((below_regrown w1 dq oq).mono bw1.size)
        go_wp2_with fail
        go_ret
        exact ⟨by rw [E.out]; rfl, bq⟩
    · refine wp_region_quiet_below (by kernel_rfl) (by kernel_rfl) ?_
      repeat (go_big_quiet_step (first | with_reducible exact C1 _ _ | with_reducible exact C2 _ _))
      refine wpQuiet_nil ?_
      rintro w2 ⟨⟨dq, oq⟩, rfl⟩
      have E : Hid (stateT false d1 d2 per = 1) := by show _ = _; simp [stateT, hlt]
      have bq := bw1.trans ((below_regrown w1 dq oq).mono bw1.size)
      go_wp2_with fail
      go_ret
      exact ⟨by rw [E.out]; rfl, bq⟩

theorem state_any (gt gl gm : Nat) (X : Array Value) (I : List Int) (r : Option Nat) (Ks : List (List Int)) (n : Nat) (nn ns hn hs cn cs per : Int) (hX : X.size = 20) (h1 : X.all (·.oneCell') = true) (hI : Id16 I) (hXI : X.extract 0 16 = idv I) (hnn : n ≤ 65536)
    (b0 : 0 ≤ nn) (b0' : nn < 1000000000) (b1 : -100000000000 ≤ ns ∧ ns ≤ 100000000000) (b2 : 0 ≤ hn) (b2' : hn < 1000000000) (b3 : -100000000000 ≤ hs ∧ hs ≤ 100000000000) (b4 : 0 ≤ cn) (b4' : cn < 1000000000) (b5 : -100000000000 ≤ cs ∧ cs ≤ 100000000000)
    (w : World) (hr : w.rangeAt gl 0 X.toList) (hgl : gl < w.heap.size) (hgt : w.cell? ⟨gt, 21, none⟩ = some (.map r)) (hgm : w.cell? ⟨gt, 20, none⟩ = some (.pointer (some ⟨gm, 0, none⟩))) (hper : w.cell? ⟨gm, 0, none⟩ = some (.int .i64 per))
    (l0 : w.cell? ⟨gl, 21, none⟩ = some (.int .u64 hn)) (l1 : w.cell? ⟨gl, 22, none⟩ = some (.int .i64 hs)) (l2 : w.cell? ⟨gl, 23, none⟩ = some (.pointer none))
    (k0 : w.cell? ⟨gl, 24, none⟩ = some (.int .u64 cn)) (k1 : w.cell? ⟨gl, 25, none⟩ = some (.int .i64 cs)) (k2 : w.cell? ⟨gl, 26, none⟩ = some (.pointer none)) (hd : DeadIs w r Ks n) :
    Calls Yba.prog 7 #[.pointer (some ⟨gt, 0, none⟩), .pointer (some ⟨gl, 0, none⟩), .agg #[.int .u64 nn, .int .i64 ns, .pointer none]] w fun e w' => e = .returned (.int .i64 (stateT (decide (I ∈ Ks)) (subT nn ns hn hs) (subT nn ns cn cs) per)) ∧ Below w.heap.size w w' :=
  state_in gt gl gm X I r Ks n nn ns hn hs cn cs per hX h1 hI hXI hnn w hr hgl hgt hgm hper l0 l1 l2 k0 k1 k2 hd (decide (I ∈ Ks)) (show decide (I ∈ Ks) = decide (I ∈ Ks) from rfl) _ _ (sub_any nn ns hn hs b0 b0' b2 b2' b1 b3) (sub_any nn ns cn cs b0 b0' b4 b4' b1 b5)

end Go.Proofs.Ybulkdwxc

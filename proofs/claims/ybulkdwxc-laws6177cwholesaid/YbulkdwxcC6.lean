/-
  6177C: pingBack.
-/
import Derived.Test.YbulkdwxcC4
namespace Go.Proofs.Ybulkdwxc
open Go.RowKit Go.Maps Go.Sort

set_option maxRecDepth 100000 in
set_option maxHeartbeats 1000000 in
theorem back_none (gt : Nat) (k p nn ns : Int) (fv : Value) (w : World)
    (LK : ∀ w', Below w.heap.size w w' → Calls Yba.prog 22 #[.pointer (some ⟨gt, 0, none⟩), .agg (peerP (idk k) p)] w' fun e w'' => e = .returned (.pointer none) ∧ Below w'.heap.size w' w'') :
    Calls Yba.prog 12 #[.pointer (some ⟨gt, 0, none⟩), .agg (peerP (idk k) p), .agg #[.int .u64 nn, .int .i64 ns, .pointer none], fv] w
      fun e w' => e = .returned (.tuple #[.int .u64 0, .pointer none]) ∧ Below w.heap.size w w' := by
  have bw : Below w.heap.size w ((w.alloc (.cells (peerP (idk k) p) 46)).alloc (.cells #[.int .u64 nn, .int .i64 ns, .pointer none] 29)) := ((Below.refl _ _).alloc (Nat.le_refl _) _).alloc (by simp) _
  have b1 := al_old (w.alloc (.cells (peerP (idk k) p) 46)) (.cells #[.int .u64 nn, .int .i64 ns, .pointer none] 29) _ _ (al_new w (.cells (peerP (idk k) p) 46) _ rfl)
  replace LK := LK _ bw
  go_enter Yba.func12, Yba.ntmps12
  go_upto_region 2 with (first
    | (refine wpList_load_row (by rfl) 46 (.tmp 5) (by rfl) w.heap.size (by rfl) 46 (peerP (idk k) p) (0, 0) _ b1 Yba.underlying46 (by rfl) (info46' _ (peerP_size rfl _)) ?_)
    | (go_at_call 22; refine LK.mono ?_; rintro e w2 ⟨rfl, hb2⟩))
  have bq := below_more bw (Nat.le_refl _) hb2
  clear LK b1 hb2 bw
  go_wp2_with fail
  exact bodyPost_ret (v := .tuple #[.int .u64 0, .pointer none]) (by simp [results, Yba.results12, go_sem]) rfl ⟨rfl, bq⟩

set_option maxRecDepth 100000 in
set_option maxHeartbeats 1000000 in
theorem back_dead (gt gl gc gq rt : Nat) (k p : Int) (cn cs sn ss p0 p1 p2 q0 q1 q2 lb nn ns cl rq dig : Int) (w : World) (H : PB w gt gl gc gq (lnkC k p rt cn cs sn ss p0 p1 p2 q0 q1 q2 lb) dig cl rq) (hgl : gl < w.heap.size) (fv : Value) (dead : Bool)
    (LK : ∀ w', Below w.heap.size w w' → Calls Yba.prog 22 #[.pointer (some ⟨gt, 0, none⟩), .agg (peerP (idk k) p)] w' fun e w'' => e = .returned (.pointer (some ⟨gl, 0, none⟩)) ∧ Below w'.heap.size w' w'')
    (DE : ∀ w', Below w.heap.size w w' → Calls Yba.prog 16 #[.pointer (some ⟨gt, 0, none⟩), .pointer (some ⟨gl, 0, none⟩)] w' fun e w'' => e = .returned (.bool dead) ∧ Below w'.heap.size w' w'')
    (hno : dead = true ∨ p0 ≠ 0 ∨ q0 ≠ 0) :
    Calls Yba.prog 12 #[.pointer (some ⟨gt, 0, none⟩), .agg (peerP (idk k) p), .agg #[.int .u64 nn, .int .i64 ns, .pointer none], fv] w
      fun e w' => e = .returned (.tuple #[.int .u64 0, .pointer none]) ∧ Below w.heap.size w w' := by
  have bw : Below w.heap.size w ((w.alloc (.cells (peerP (idk k) p) 46)).alloc (.cells #[.int .u64 nn, .int .i64 ns, .pointer none] 29)) := ((Below.refl _ _).alloc (Nat.le_refl _) _).alloc (by simp) _
  have b1 := al_old (w.alloc (.cells (peerP (idk k) p) 46)) (.cells #[.int .u64 nn, .int .i64 ns, .pointer none] 29) _ _ (al_new w (.cells (peerP (idk k) p) 46) _ rfl)
  replace LK := LK _ bw
  go_enter Yba.func12, Yba.ntmps12
  go_upto_region 2 with (first
    | (refine wpList_load_row (by rfl) 46 (.tmp 5) (by rfl) w.heap.size (by rfl) 46 (peerP (idk k) p) (0, 0) _ b1 Yba.underlying46 (by rfl) (info46' _ (peerP_size rfl _)) ?_)
    | (go_at_call 22; refine LK.mono ?_; rintro e w2 ⟨rfl, hb2⟩))
  have bq := below_more bw (Nat.le_refl _) hb2
  replace DE := DE _ bq
  clear LK b1 hb2 bw
  have AFT : Hid (∀ w3, Below w2.heap.size w2 w3 → w3.cell? ⟨gl, 30, none⟩ = some (.int .u64 p0) ∧ w3.cell? ⟨gl, 35, none⟩ = some (.int .u64 q0) ∧ Below w.heap.size w w3) := by
    intro w3 hb3
    have b := below_more bq (Nat.le_refl _) hb3
    exact ⟨(b.cell (p := ⟨gl, 30, none⟩) hgl).trans (H.link 30 _ rfl), (b.cell (p := ⟨gl, 35, none⟩) hgl).trans (H.link 35 _ rfl), b⟩
  clear bq H
  cases dead
  case true =>
    clear hno
    go_wp2_with (go_at_call 16; refine DE.mono ?_; rintro e w3 ⟨rfl, hb3⟩; (obtain ⟨y0, y1, y2⟩ := AFT.out w3 hb3); clear AFT DE)
    exact bodyPost_ret (v := .tuple #[.int .u64 0, .pointer none]) (by simp [results, Yba.results12, go_sem]) rfl ⟨rfl, y2⟩
  case false =>
    by_cases e0 : p0 = 0
    · have e1 : q0 ≠ 0 := by simpa [e0] using hno
      subst e0
      clear hno
      go_wp2_with (go_at_call 16; refine DE.mono ?_; rintro e w3 ⟨rfl, hb3⟩; (obtain ⟨y0, y1, y2⟩ := AFT.out w3 hb3); clear AFT DE)
      exact bodyPost_ret (v := .tuple #[.int .u64 0, .pointer none]) (by simp [results, Yba.results12, go_sem]) rfl ⟨rfl, y2⟩
    · clear hno
      go_wp2_with (go_at_call 16; refine DE.mono ?_; rintro e w3 ⟨rfl, hb3⟩; (obtain ⟨y0, y1, y2⟩ := AFT.out w3 hb3); clear AFT DE)
      exact bodyPost_ret (v := .tuple #[.int .u64 0, .pointer none]) (by simp [results, Yba.results12, go_sem]) rfl ⟨rfl, y2⟩

section
variable {gt gl gc gq rt gm : Nat} {k p cn cs sn ss p1 p2 q1 q2 lb nn ns rq dig tick d : Int} {w : World}
/-- WHAT pingBack LOOKS AT where it pings. -/
structure Live (w : World) (gt gl gc gq rt gm : Nat) (k p cn cs sn ss p1 p2 q1 q2 lb nn ns rq dig tick d : Int) : Prop where
  pb : PB w gt gl gc gq (lnkC k p rt cn cs sn ss 0 p1 p2 0 q1 q2 lb) dig 0 rq
  hgl : gl < w.heap.size
  n1 : gl ≠ gc
  n2 : gl ≠ gq
  n3 : gc ≠ gq
  n4 : gl ≠ gt
  n5 : gc ≠ gt
  hgm : w.cell? ⟨gt, 20, none⟩ = some (.pointer (some ⟨gm, 0, none⟩))
  htk : w.cell? ⟨gm, 1, none⟩ = some (.int .i64 tick)
  LK : ∀ w', Below w.heap.size w w' → Calls Yba.prog 22 #[.pointer (some ⟨gt, 0, none⟩), .agg (peerP (idk k) p)] w' fun e w'' => e = .returned (.pointer (some ⟨gl, 0, none⟩)) ∧ Below w'.heap.size w' w''
  DE : ∀ w', Below w.heap.size w w' → Calls Yba.prog 16 #[.pointer (some ⟨gt, 0, none⟩), .pointer (some ⟨gl, 0, none⟩)] w' fun e w'' => e = .returned (.bool false) ∧ Below w'.heap.size w' w''
  SU : ∀ w, Calls Yba.prog 13 #[.agg #[.int .u64 nn, .int .i64 ns, .pointer none], .agg #[.int .u64 cn, .int .i64 cs, .pointer none]] w fun e w' => e = .returned (.int .i64 d) ∧ Below w.heap.size w w'

set_option maxRecDepth 100000 in
set_option maxHeartbeats 1000000 in
theorem back_ping (L : Live w gt gl gc gq rt gm k p cn cs sn ss p1 p2 q1 q2 lb nn ns rq dig tick d) (hd : tick ≤ d) :
    Calls Yba.prog 12 #[.pointer (some ⟨gt, 0, none⟩), .agg (peerP (idk k) p), .agg #[.int .u64 nn, .int .i64 ns, .pointer none], .func (.func 11) #[] #[.pointer (some ⟨gc, 0, none⟩), .pointer (some ⟨gq, 0, none⟩)]] w
      fun e w' => ∃ go ge, e = .returned (.tuple #[.int .u64 0, .pointer (some ⟨go, 0, none⟩)]) ∧ w'.heap[go]? = some (.cells #[.slice (some ⟨rt, 0, none⟩) 1 1, .pointer (some ⟨ge, 0, none⟩)] 86) ∧ w'.heap[ge]? = some (.cells (msgC rq lb dig) 104) ∧
        PB w' gt gl gc gq (lnkC k p rt cn cs nn ns rq nn ns 0 q1 q2 lb) dig 1 rq ∧ Turn (fun k => k = gl ∨ k = gc) w w' := by
  obtain ⟨H, hgl, n1, n2, n3, n4, n5, hgm, htk, LK, DE, SU⟩ := L
  have bw : Below w.heap.size w ((w.alloc (.cells (peerP (idk k) p) 46)).alloc (.cells #[.int .u64 nn, .int .i64 ns, .pointer none] 29)) := ((Below.refl _ _).alloc (Nat.le_refl _) _).alloc (by simp) _
  have b1 := al_old (w.alloc (.cells (peerP (idk k) p) 46)) (.cells #[.int .u64 nn, .int .i64 ns, .pointer none] 29) _ _ (al_new w (.cells (peerP (idk k) p) 46) _ rfl)
  have b2 := al_new (w.alloc (.cells (peerP (idk k) p) 46)) (.cells #[.int .u64 nn, .int .i64 ns, .pointer none] 29) (w.heap.size + 1) (al_size _ _).symm
  replace LK := LK _ bw
  go_enter Yba.func12, Yba.ntmps12
  go_upto_region 2 with (first
    | (refine wpList_load_row (by rfl) 46 (.tmp 5) (by rfl) w.heap.size (by rfl) 46 (peerP (idk k) p) (0, 0) _ b1 Yba.underlying46 (by rfl) (info46' _ (peerP_size rfl _)) ?_)
    | (go_at_call 22; refine LK.mono ?_; rintro e w2 ⟨rfl, hb2⟩))
  have bq := below_more bw (Nat.le_refl _) hb2
  replace b2 := kept hb2 b2
  replace DE := DE _ bq
  clear LK b1 hb2 bw
  have AFT : Hid (∀ w3, Below w2.heap.size w2 w3 → w3.cell? ⟨gl, 30, none⟩ = some (.int .u64 0) ∧ w3.cell? ⟨gl, 35, none⟩ = some (.int .u64 0) ∧ Hid (Below w.heap.size w w3) ∧ Hid (w3.heap[w.heap.size + 1]? = some (.cells #[.int .u64 nn, .int .i64 ns, .pointer none] 29))) := by
    intro w3 hb3
    have b := below_more bq (Nat.le_refl _) hb3
    exact ⟨(b.cell (p := ⟨gl, 30, none⟩) hgl).trans (H.link 30 _ rfl), (b.cell (p := ⟨gl, 35, none⟩) hgl).trans (H.link 35 _ rfl), b, kept hb3 b2⟩
  have HH : Hid _ := H
  have HM : Hid _ := hgm
  have HT : Hid _ := htk
  have HD : Hid _ := hd
  clear bq H b2 hgm htk hd
  go_upto_region 4 with (go_at_call 16; refine DE.mono ?_; rintro e w3 ⟨rfl, hb3⟩; (obtain ⟨y0, y1, y2, y3⟩ := AFT.out w3 hb3); clear AFT DE)
  have hgt := World.block_lt_of_cell? w _ HM.out
  have hgmm := World.block_lt_of_cell? w _ HT.out
  have c1 := cell_regrown ((y2.out.cell (p := ⟨gt, 20, none⟩) hgt).trans HM.out)
  have c2 := cell_regrown ((y2.out.cell (p := ⟨gm, 1, none⟩) hgmm).trans HT.out)
  have H3 := HH.out.below hgl y2.out
  have c3 := cell_regrown (show w3.cell? ⟨gl, 24, none⟩ = some (.int .u64 cn) from H3.link 24 _ rfl)
  have c4 := cell_regrown (show w3.cell? ⟨gl, 25, none⟩ = some (.int .i64 cs) from H3.link 25 _ rfl)
  have c5 := cell_regrown (show w3.cell? ⟨gl, 26, none⟩ = some (.pointer none) from H3.link 26 _ rfl)
  have c6 := cell_regrown (v := .int .u64 nn) (a := ⟨w.heap.size + 1, 0, none⟩) ((cell_of_row _ _ _ _ _ _ y3.out).trans rfl)
  have c7 := cell_regrown (v := .int .i64 ns) (a := ⟨w.heap.size + 1, 1, none⟩) ((cell_of_row _ _ _ _ _ _ y3.out).trans rfl)
  have c8 := cell_regrown (v := .pointer none) (a := ⟨w.heap.size + 1, 2, none⟩) ((cell_of_row _ _ _ _ _ _ y3.out).trans rfl)
  have C1 := fun d os => Calls.regrown_of (SU (grow (redrawn w3 d) os))
  have hd : ¬ d < tick := by have := HD.out; omega
  clear y0 y1 HM HT HD SU H3
  refine wp_region_quiet_below (by kernel_rfl) (by kernel_rfl) ?_
  repeat (go_big_quiet_step (with_reducible exact C1 _ _))
  refine wpQuiet_nil ?_
  rintro _ ⟨⟨dq, oq⟩, rfl⟩
  clear c1 c2 c3 c4 c5 c6 c7 c8 C1
  have b4 := below_more y2.out (Nat.le_refl _) (below_regrown w3 dq oq)
  have b5 := kept (below_regrown w3 dq oq) y3.out
  have H4 := HH.out.below hgl b4
  have hg4 := b4.size
  generalize grow (redrawn w3 dq) oq = w4 at *
  clear y2 y3 HH hb3
  have PG := ping_any gt gl gc gq rt k p cn cs sn ss 0 p1 p2 0 q1 q2 lb nn ns 0 rq dig (by omega) w4 H4 n1 n2 n3 n4 n5
  clear H4
  have x0 : w4.cell? ⟨w.heap.size + 1, 0, none⟩ = some (.int .u64 nn) := (cell_of_row _ _ _ _ _ _ b5).trans rfl
  have x1 : w4.cell? ⟨w.heap.size + 1, 1, none⟩ = some (.int .i64 ns) := (cell_of_row _ _ _ _ _ _ b5).trans rfl
  have x2 : w4.cell? ⟨w.heap.size + 1, 2, none⟩ = some (.pointer none) := (cell_of_row _ _ _ _ _ _ b5).trans rfl
  have BB : Hid _ := b4
  have HG : Hid (w.heap.size ≤ w4.heap.size) := hg4
  clear b5 b4 hg4
  go_wp2_with (go_at_call 23; refine PG.mono ?_; rintro e w5 ⟨ge, rfl, hge, hm, H5, T5⟩; (have HS : Hid (PB w5 gt gl gc gq (lnkC k p rt cn cs nn ns rq nn ns 0 q1 q2 lb) dig (0 + 1) rq ∧ Turn (fun k => k = gl ∨ k = gc) w4 w5 ∧ w5.heap[ge]? = some (.cells (msgC rq lb dig) 104) ∧ w4.heap.size ≤ ge) := ⟨H5, T5, hm, hge⟩); clear H5 T5 hm hge PG x0 x1 x2)
  obtain ⟨H5, T5, hm, hge⟩ := HS.out
  have bA : Below w5.heap.size w5 (w5.alloc (.cells #[.slice (some ⟨rt, 0, none⟩) 1 1, .pointer (some ⟨ge, 0, none⟩)] 86)) := (Below.refl _ _).alloc (Nat.le_refl _) _
  have T6 : Turn (fun k => k = gl ∨ k = gc) w4 (w5.alloc (.cells #[.slice (some ⟨rt, 0, none⟩) 1 1, .pointer (some ⟨ge, 0, none⟩)] 86)) := T5.alloc _
  have hs5 := T5.size
  exact bodyPost_ret (v := .tuple #[.int .u64 0, .pointer (some ⟨w5.heap.size, 0, none⟩)]) (by simp [results, Yba.results12, go_sem]) rfl ⟨w5.heap.size, ge, rfl, al_new _ _ _ rfl, kept bA hm, H5.below (by have := HG.out; omega) bA, (Turn.of_below BB.out).trans T6⟩

set_option maxRecDepth 100000 in
set_option maxHeartbeats 1000000 in
theorem back_back (L : Live w gt gl gc gq rt gm k p cn cs sn ss p1 p2 q1 q2 lb nn ns rq dig tick d) (hd : d < tick) :
    Calls Yba.prog 12 #[.pointer (some ⟨gt, 0, none⟩), .agg (peerP (idk k) p), .agg #[.int .u64 nn, .int .i64 ns, .pointer none], .func (.func 11) #[] #[.pointer (some ⟨gc, 0, none⟩), .pointer (some ⟨gq, 0, none⟩)]] w
      fun e w' => e = .returned (.tuple #[.int .u64 rq, .pointer none]) ∧ PB w' gt gl gc gq (lnkC k p rt cn cs sn ss 0 p1 p2 rq nn ns lb) dig 1 rq ∧ Turn (fun k => k = gl ∨ k = gc) w w' := by
  obtain ⟨H, hgl, n1, n2, n3, n4, n5, hgm, htk, LK, DE, SU⟩ := L
  have bw : Below w.heap.size w ((w.alloc (.cells (peerP (idk k) p) 46)).alloc (.cells #[.int .u64 nn, .int .i64 ns, .pointer none] 29)) := ((Below.refl _ _).alloc (Nat.le_refl _) _).alloc (by simp) _
  have b1 := al_old (w.alloc (.cells (peerP (idk k) p) 46)) (.cells #[.int .u64 nn, .int .i64 ns, .pointer none] 29) _ _ (al_new w (.cells (peerP (idk k) p) 46) _ rfl)
  have b2 := al_new (w.alloc (.cells (peerP (idk k) p) 46)) (.cells #[.int .u64 nn, .int .i64 ns, .pointer none] 29) (w.heap.size + 1) (al_size _ _).symm
  replace LK := LK _ bw
  have hcw : gc < w.heap.size ∧ gq < w.heap.size := ⟨World.block_lt_of_cell? w _ H.cc, World.block_lt_of_cell? w _ H.cq⟩
  go_enter Yba.func12, Yba.ntmps12
  go_upto_region 2 with (first
    | (refine wpList_load_row (by rfl) 46 (.tmp 5) (by rfl) w.heap.size (by rfl) 46 (peerP (idk k) p) (0, 0) _ b1 Yba.underlying46 (by rfl) (info46' _ (peerP_size rfl _)) ?_)
    | (go_at_call 22; refine LK.mono ?_; rintro e w2 ⟨rfl, hb2⟩))
  have bq := below_more bw (Nat.le_refl _) hb2
  replace b2 := kept hb2 b2
  replace DE := DE _ bq
  clear LK b1 hb2 bw
  have AFT : Hid (∀ w3, Below w2.heap.size w2 w3 → w3.cell? ⟨gl, 30, none⟩ = some (.int .u64 0) ∧ w3.cell? ⟨gl, 35, none⟩ = some (.int .u64 0) ∧ Hid (Below w.heap.size w w3) ∧ Hid (w3.heap[w.heap.size + 1]? = some (.cells #[.int .u64 nn, .int .i64 ns, .pointer none] 29))) := by
    intro w3 hb3
    have b := below_more bq (Nat.le_refl _) hb3
    exact ⟨(b.cell (p := ⟨gl, 30, none⟩) hgl).trans (H.link 30 _ rfl), (b.cell (p := ⟨gl, 35, none⟩) hgl).trans (H.link 35 _ rfl), b, kept hb3 b2⟩
  have HH : Hid _ := H
  have HM : Hid _ := hgm
  have HT : Hid _ := htk
  have HD : Hid _ := hd
  clear bq H b2 hgm htk hd
  go_upto_region 4 with (go_at_call 16; refine DE.mono ?_; rintro e w3 ⟨rfl, hb3⟩; (obtain ⟨y0, y1, y2, y3⟩ := AFT.out w3 hb3); clear AFT DE)
  have hgt := World.block_lt_of_cell? w _ HM.out
  have hgmm := World.block_lt_of_cell? w _ HT.out
  have c1 := cell_regrown ((y2.out.cell (p := ⟨gt, 20, none⟩) hgt).trans HM.out)
  have c2 := cell_regrown ((y2.out.cell (p := ⟨gm, 1, none⟩) hgmm).trans HT.out)
  have H3 := HH.out.below hgl y2.out
  have c3 := cell_regrown (show w3.cell? ⟨gl, 24, none⟩ = some (.int .u64 cn) from H3.link 24 _ rfl)
  have c4 := cell_regrown (show w3.cell? ⟨gl, 25, none⟩ = some (.int .i64 cs) from H3.link 25 _ rfl)
  have c5 := cell_regrown (show w3.cell? ⟨gl, 26, none⟩ = some (.pointer none) from H3.link 26 _ rfl)
  have c6 := cell_regrown (v := .int .u64 nn) (a := ⟨w.heap.size + 1, 0, none⟩) ((cell_of_row _ _ _ _ _ _ y3.out).trans rfl)
  have c7 := cell_regrown (v := .int .i64 ns) (a := ⟨w.heap.size + 1, 1, none⟩) ((cell_of_row _ _ _ _ _ _ y3.out).trans rfl)
  have c8 := cell_regrown (v := .pointer none) (a := ⟨w.heap.size + 1, 2, none⟩) ((cell_of_row _ _ _ _ _ _ y3.out).trans rfl)
  have C1 := fun d os => Calls.regrown_of (SU (grow (redrawn w3 d) os))
  have hd : d < tick := HD.out
  clear y0 y1 HM HT HD SU H3
  refine wp_region_quiet_below (by kernel_rfl) (by kernel_rfl) ?_
  repeat (go_big_quiet_step (with_reducible exact C1 _ _))
  refine wpQuiet_nil ?_
  rintro _ ⟨⟨dq, oq⟩, rfl⟩
  clear c1 c2 c3 c4 c5 c6 c7 c8 C1
  have b4 := below_more y2.out (Nat.le_refl _) (below_regrown w3 dq oq)
  have b5 := kept (below_regrown w3 dq oq) y3.out
  have H4 := HH.out.below hgl b4
  have hg4 := b4.size
  generalize grow (redrawn w3 dq) oq = w4 at *
  clear y2 y3 HH hb3
  go_upto_region 7 with fail
  have L1 : w4.cell? ⟨gl, 20, none⟩ = some (.slice (some ⟨rt, 0, none⟩) 1 1) := H4.link 20 _ rfl
  have x0 : w4.cell? ⟨w.heap.size + 1, 0, none⟩ = some (.int .u64 nn) := (cell_of_row _ _ _ _ _ _ b5).trans rfl
  have x1 : w4.cell? ⟨w.heap.size + 1, 1, none⟩ = some (.int .i64 ns) := (cell_of_row _ _ _ _ _ _ b5).trans rfl
  have x2 : w4.cell? ⟨w.heap.size + 1, 2, none⟩ = some (.pointer none) := (cell_of_row _ _ _ _ _ _ b5).trans rfl
  have hcc := H4.cc
  have hcf := H4.cf
  have hcq := H4.cq
  have hfz := H4.fz
  have BB : Hid _ := b4
  have hgcw : gc < w.heap.size ∧ gq < w.heap.size := hcw
  generalize hg : w.heap.size = g at *
  clear b5 b4 hd hg4 hcw
  go_cut [] (fun wx => PB wx gt gl gc gq (lnkC k p rt cn cs sn ss 0 p1 p2 rq nn ns lb) dig (0 + 1) rq ∧ Turn (fun k => k = gl ∨ k = gc) w4 wx)
  case first =>
    have AFT : ∀ wx, wx = w4.drew.setCell ⟨gc, 0, none⟩ (.int .i64 (0 + 1)) → wx.cell? ⟨gl, 20, none⟩ = some (.slice (some ⟨rt, 0, none⟩) 1 1) ∧ (wx.cell? ⟨g + 1, 0, none⟩ = some (.int .u64 nn) ∧ wx.cell? ⟨g + 1, 1, none⟩ = some (.int .i64 ns) ∧ wx.cell? ⟨g + 1, 2, none⟩ = some (.pointer none)) ∧
        (∀ j, wx.frozen? ⟨gl, j, none⟩ = false) ∧ (∀ j v, (lnkC k p rt cn cs sn ss 0 p1 p2 0 q1 q2 lb)[j]? = some v → wx.cell? ⟨gl, j, none⟩ = some v) ∧ Hid (PB wx gt gl gc gq (lnkC k p rt cn cs sn ss 0 p1 p2 0 q1 q2 lb) dig (0 + 1) rq ∧ Turn (fun k => k = gl ∨ k = gc) w4 wx) := by
      rintro _ rfl
      have H2 := H4.drew.req n1 n3 n5 (0 + 1)
      refine ⟨H2.link 20 _ rfl, ⟨?_, ?_, ?_⟩, H2.fz, fun j v hv => by have := H2.link j v hv; rwa [Nat.zero_add] at this, H2, (Turn.refl _ _).drew.setCell (p := ⟨gc, 0, none⟩) (.inr rfl) _⟩
      · rw [World.cell?_setCell_other _ _ _ _ (by simp)]; exact x0
      · rw [World.cell?_setCell_other _ _ _ _ (by simp)]; exact x1
      · rw [World.cell?_setCell_other _ _ _ _ (by simp)]; exact x2
    go_region_with (first
      | (go_at_call 11; refine (req_any gc gq 0 rq (by omega) w4.drew n3 hcc hcf hcq).mono ?_; rintro e w6 ⟨rfl, hw2⟩; (obtain ⟨y0, ⟨y1, y2, y3⟩, y4, y5, HB⟩ := AFT w6 hw2); (have z0 := y5 35 _ rfl); (have z1 := y5 36 _ rfl); (have z2 := y5 37 _ rfl); (have z3 := y5 38 _ rfl); (have z4 := y5 39 _ rfl); clear AFT y5 hw2))
    all_goals go_wp2_with fail
    all_goals go_meet
    all_goals exact ⟨PB.put (xs := (lnkC k p rt cn cs sn ss 0 p1 p2 0 q1 q2 lb).take 35) (ys := [.int .u64 0, .int .u64 q1, .int .i64 q2, .pointer none, .slice (some ⟨rt, 0, none⟩) 1 1]) (zs := (lnkC k p rt cn cs sn ss 0 p1 p2 0 q1 q2 lb).drop 40) HB.out.1 n1 n2 n4 [.int .u64 rq, .int .u64 nn, .int .i64 ns, .pointer none, .slice (some ⟨rt, 0, none⟩) 1 1] rfl (o := 35) rfl,
      Turn.setCells (b := gl) (.inl rfl) [.int .u64 rq, .int .u64 nn, .int .i64 ns, .pointer none, .slice (some ⟨rt, 0, none⟩) 1 1] 35 _ HB.out.2⟩
  case rest =>
    obtain ⟨H5, T5⟩ := hcut
    have y : wc.cell? ⟨gl, 35, none⟩ = some (.int .u64 rq) := H5.link 35 _ rfl
    have HS : Hid (PB wc gt gl gc gq (lnkC k p rt cn cs sn ss 0 p1 p2 rq nn ns lb) dig (0 + 1) rq ∧ Turn (fun k => k = gl ∨ k = gc) w4 wc) := ⟨H5, T5⟩
    clear H5 T5 H4 L1 x0 x1 x2 hcc hcf hcq hfz
    go_wp2_with fail
    exact bodyPost_ret (v := .tuple #[.int .u64 rq, .pointer none]) (by simp [results, Yba.results12, go_sem]) rfl ⟨rfl, HS.out.1, (Turn.of_below (by rw [hg]; exact BB.out)).trans HS.out.2⟩
end
end Go.Proofs.Ybulkdwxc

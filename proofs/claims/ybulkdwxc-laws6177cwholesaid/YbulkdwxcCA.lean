/-
  6177C: the law.
-/
import Derived.Test.YbulkdwxcCF
namespace Go.Proofs.Ybulkdwxc
open Go.RowKit Go.Maps Go.Sort

set_option maxRecDepth 100000 in
set_option maxHeartbeats 60000000 in
theorem lawC_small (a0 : Option Addr) (n cap0 : Nat) (a1 : Option Addr) (n1 cap1 : Nat) (M : Md) (D : Nat → Int) (pk fl nowN tick rq dig : Int) (w : World) (h0 : IsMem w a0 n M) (h1 : IsKeys w a1 n1 D) (hn : n ≤ 65536) (hn1 : n1 ≤ 65536)
    (hpk : 0 ≤ pk ∧ pk ≤ 255) (hpw : (Lit.int .u8 pk).wf = true) (hnow : -9223372036854775808 ≤ nowN ∧ nowN ≤ 9223372036854775807) (hK : ∀ j, j < n → (Lit.int .u8 (M.K j)).wf = true) (hC : ∀ j, j < n → -9223372036854775808 ≤ M.C j ∧ M.C j ≤ 9223372036854775807) (hD : ∀ j, j < n1 → (Lit.int .u8 (D j)).wf = true) :
    Calls Yba.prog 4 #[.slice a0 n cap0, .slice a1 n1 cap1, .int .u8 pk, .int .u16 fl, .int .i64 nowN, .int .i64 tick, .int .u64 rq, .int .u64 dig] w fun e w' => e = .returned (.bool true) ∧ Below w.heap.size w w' := by
  have HD : Hid _ := hD
  have HK : Hid _ := hK
  have HC : Hid _ := hC
  clear hD hK hC
  go_enter Yba.func4, Yba.ntmps4
  go_upto_if 67 with fail
  have q1 := al_new w (.cells #[.int .u64 rq] 26) _ rfl
  have bb : Below w.heap.size w (w.alloc (.cells #[.int .u64 rq] 26)) := (Below.refl _ _).alloc (Nat.le_refl _) _
  have z1 := al_size w (.cells #[.int .u64 rq] 26)
  generalize hgq : w.heap.size = gq at *
  generalize (w.alloc (.cells #[.int .u64 rq] 26)) = wa at *
  go_cut [18, 20] from 65 to 81 (fun s _ wx => ∃ r nd, s = .map r ∧ DeadIs wx r ((List.range n1).map fun j => idk (D j)) nd ∧ Below gq w wx ∧ wx.heap[gq]? = some (.cells #[.int .u64 rq] 26))
  case first => as_aux_lemma =>
    by_cases hpos : 0 < n1
    · have h0' : (0 : Int) < (n1 : Int) := by omega
      rw [show decide (0 < n1) = true by simpa using hpos]
      have hmm := makeMap25 n1
      go_wp2_with fail
      clear hmm
      go_loopw [73] (fun i wx => ∃ k : Nat, k ≤ n1 ∧ i = .int .i64 k ∧ ∃ nd, DeadIs wx (some (gq + 1)) ((List.range k).map fun j => idk (D j)) nd ∧ Below gq w wx ∧ wx.heap[gq]? = some (.cells #[.int .u64 rq] 26)) (fun i _ => n1 - (intOf i).toNat)
      case atStart => exact ⟨0, Nat.zero_le _, rfl, 0, by have := DeadIs.made wa; rw [z1] at this; simpa using this, bb.alloc (by omega) _, al_old _ _ _ _ q1⟩
      case round =>
        obtain ⟨k, hk, rfl, nd, hd, hbel, hq⟩ := hrel
        by_cases hlt : k < n1
        · obtain ⟨b, o, hix, hb, hra⟩ := h1.get (cap := cap1) hlt
          have hr2 := (hbel.cell (p := ⟨b, o + k, none⟩) (show b < gq by omega)).trans hra
          have hI := idk_id (HD.out k hlt)
          have HT : Hid _ := range_next (fun j => idk (D j)) k
          clear hra
          generalize D k = x at *
          go_wp2_with (first
            | (refine wpList_build (by rfl) 30 #[(0, .tmp 78)] (by rfl) #[(0, .int .u8 x)] (by rfl) (.agg (idv (idk x))) (build30C x _) ?_)
            | (at_mapUpdate; go_loud (refine wpList_dead_put wr (by rfl) (.tmp 77) (.tmp 79) (.tmp 80) (by rfl) (gq + 1) ((List.range k).map fun j => idk (D j)) nd (by rfl) hd (by simp; omega) (idk x) hI (by rfl) (by rfl) ?_); intro w' nd' hd' hg'))
          go_roundw
          case rel => exact ⟨k + 1, by omega, by go_num, nd', by rw [HT.out]; exact hd', below_grown hbel (by omega) hg' (by omega), by rw [hg'.block _ (Array.getElem?_eq_some_iff.1 hq).1 (by simp), hq]⟩
          case measure => simp [intOf]; omega
        · have hkk : k = n1 := by omega
          subst hkk
          go_wp2_with fail
          go_meet
          exact ⟨_, nd, rfl, hd, hbel, hq⟩
    · have h0' : ¬ (0 : Int) < (n1 : Int) := by omega
      have e0 : Hid (n1 = 0) := by show _ = _; omega
      go_wp2_with fail
      go_meet
      exact ⟨none, 0, rfl, .inl ⟨rfl, by simp [e0.out], rfl⟩, bb, q1⟩
  case rest => as_aux_lemma =>
    obtain ⟨r, nd, rfl, hd, bw, hq⟩ := hcut
    have hnd : nd ≤ 65536 := by have := hd.le; simp at this; omega
    have hgqc : gq < wc.heap.size := (Array.getElem?_eq_some_iff.1 hq).1
    have hrm : ∀ b, r = some b → b < wc.heap.size := fun b hb => by subst hb; exact hd.lt
    clear q1 bb z1 wa
    go_upto_region 13 with (first
      | (refine wpList_build (by rfl) 34 #[(1, .tmp 82)] (by rfl) #[(1, .int .i64 tick)] (by rfl) (.agg #[.int .i64 0, .int .i64 tick, .int .i64 0, .int .i64 0, .int .i64 0, .int .i64 0, .int .i64 0, .int .i64 0, .int .i64 0, .int .i64 0, .int .i64 0, .int .i64 0, .int .i64 0]) (build34C _ _) ?_))
    have m1 := al_new wc (.cells #[.int .i64 0, .int .i64 tick, .int .i64 0, .int .i64 0, .int .i64 0, .int .i64 0, .int .i64 0, .int .i64 0, .int .i64 0, .int .i64 0, .int .i64 0, .int .i64 0, .int .i64 0] 34) _ rfl
    have bA : Below wc.heap.size wc (wc.alloc (.cells #[.int .i64 0, .int .i64 tick, .int .i64 0, .int .i64 0, .int .i64 0, .int .i64 0, .int .i64 0, .int .i64 0, .int .i64 0, .int .i64 0, .int .i64 0, .int .i64 0, .int .i64 0] 34)) := (Below.refl _ _).alloc (Nat.le_refl _) _
    generalize hgm : wc.heap.size = gm at *
    generalize wc.alloc (.cells #[.int .i64 0, .int .i64 tick, .int .i64 0, .int .i64 0, .int .i64 0, .int .i64 0, .int .i64 0, .int .i64 0, .int .i64 0, .int .i64 0, .int .i64 0, .int .i64 0, .int .i64 0] 34) = w1 at *
    replace bw := below_more bw (by omega) (hgm ▸ bA)
    replace hd := hd.below (hgm ▸ bA)
    replace hq := kept (hgm ▸ bA) hq
    clear bA
    go_upto_region 14 with (first
      | (refine wpList_build (by rfl) 46 #[] (by rfl) #[] (by rfl) (.agg peer0) (build46 _) ?_)
      | (go_at_call 5; refine (table_any gm r _).mono ?_; rintro e w2 ⟨rfl, hb2⟩)
      | (refine wpList_store_new (by rfl) 53 (.tmp 22) (.tmp 88) (by rfl) w2 _ (tbl gm r) 53 w2.heap.size rfl (by rfl) (by rfl) (by rfl) (by rfl) info53 (tbl_one gm r) ?_))
    try go_frame
    have hgm1 := (Array.getElem?_eq_some_iff.1 m1).1
    have bA : Below w1.heap.size w1 (w2.alloc (.cells (tbl gm r) 53)) := hb2.alloc hb2.size _
    have t1 := al_new w2 (.cells (tbl gm r) 53) _ rfl
    have hs2 := hb2.size
    generalize hgt : w2.heap.size = gt at *
    generalize (w2.alloc (.cells (tbl gm r) 53)) = w3 at *
    replace bw := below_more bw (by omega) bA
    replace hd := hd.below bA
    replace hq := kept bA hq
    replace m1 := kept bA m1
    have hgmt : gm < gt := by omega
    have hgqt : gq < gt := by omega
    clear bA hb2 hgt w2
    obtain ⟨T20, T21, T22, T23, dv, T24⟩ := tbl_cells gm r
    have c24 : w3.cell? ⟨gt, 24, none⟩ = some dv := (cell_of_row _ _ _ _ _ _ t1).trans T24
    have f24 : w3.frozen? ⟨gt, 24, none⟩ = false := frozen_of_row _ _ _ _ _ t1
    go_upto_region 15 with fail
    have hBs : Bs (w3.setCell ⟨gt, 24, none⟩ (.int .u64 dig)) gq gm gt r ((List.range n1).map fun j => idk (D j)) nd rq tick dig := by
      have T : Turn (fun k => k = gt) w3 (w3.setCell ⟨gt, 24, none⟩ (.int .u64 dig)) := Turn.setCell (S := fun k => k = gt) (Turn.refl _ _) (p := ⟨gt, 24, none⟩) rfl _
      refine ⟨?_, ?_, ?_, ?_, World.cell?_setCell_same _ _ _ c24, fun j => by rw [World.frozen?_setCell]; exact frozen_of_row _ _ _ _ _ t1, hd.kept fun b hb hlt => T.block b hlt (by have := hrm b hb; omega)⟩
      · rw [World.cell?_setCell_other _ _ _ _ (by simp), cell_of_row _ _ _ _ _ _ hq]; rfl
      · rw [World.cell?_setCell_other _ _ _ _ (by simp), cell_of_row _ _ _ _ _ _ m1]; rfl
      · rw [World.cell?_setCell_other _ _ _ _ (by simp), cell_of_row _ _ _ _ _ _ t1]; exact T20
      · rw [World.cell?_setCell_other _ _ _ _ (by simp), cell_of_row _ _ _ _ _ _ t1]; exact T21
    have c22 : (w3.setCell ⟨gt, 24, none⟩ (.int .u64 dig)).cell? ⟨gt, 22, none⟩ = some (.slice none 0 0) := by rw [World.cell?_setCell_other _ _ _ _ (by simp), cell_of_row _ _ _ _ _ _ t1]; exact T22
    have c23 : (w3.setCell ⟨gt, 24, none⟩ (.int .u64 dig)).cell? ⟨gt, 23, none⟩ = some (.slice none 0 0) := by rw [World.cell?_setCell_other _ _ _ _ (by simp), cell_of_row _ _ _ _ _ _ t1]; exact T23
    replace bw : Below gq w (w3.setCell ⟨gt, 24, none⟩ (.int .u64 dig)) := bw.setCell (p := ⟨gt, 24, none⟩) (show gq ≤ gt by omega) _
    have hgtw : gt < (w3.setCell ⟨gt, 24, none⟩ (.int .u64 dig)).heap.size := World.block_lt_of_cell? _ _ c22
    clear T20 T21 T22 T23 T24 c24 f24 t1 m1 hq hd
    generalize (w3.setCell ⟨gt, 24, none⟩ (.int .u64 dig)) = w4 at hBs c22 c23 bw hgtw ⊢
    obtain ⟨C1, s1, K1⟩ := make47 n hn
    obtain ⟨C2, s2, K2⟩ := make48 n hn
    obtain ⟨C3, s3, K3⟩ := make49 n hn
    obtain ⟨C4, s4, K4⟩ := make74 n hn
    go_upto_region 20 with fail
    have BL := Bld.start (M := M) (n := n) hBs c22 c23 s1 s2 s3 s4 bw rfl (by omega) (by omega) (by omega) (fun b hb => by have := hrm b hb; omega) id id
    generalize hg : w4.heap.size = g at BL hgtw ⊢
    generalize (((((w4.alloc (.cells C1 56)).alloc (.cells C2 30)).alloc (.cells C3 50)).alloc (.cells C4 59)).alloc (.cells C4 59)) = w5 at BL ⊢
    clear K1 K2 K3 K4 s1 s2 s3 s4 hBs c22 c23 bw hg w4
    rw [show g + 1 + 1 + 1 + 1 = g + 4 from rfl, show g + 1 + 1 + 1 = g + 3 from rfl, show g + 1 + 1 = g + 2 from rfl]
    go_upto_block 2 with fail
    go_cut [28, 29, 30, 31, 32] from 101 to 165 (fun _ _ _ _ _ wx => ∃ lp rp, Bld w wx gq gm gt g r ((List.range n1).map fun j => idk (D j)) nd rq tick dig n n n n n n n lp rp M)
    case first => as_aux_lemma =>
      go_wp2_with fail
      go_loopg [28] n (fun k s wr => ∃ (i : Nat) (lp rp : Nat → Nat), i ≤ n ∧ k = n - i ∧ s = .int .i64 i ∧ Bld w wr gq gm gt g r ((List.range n1).map fun j => idk (D j)) nd rq tick dig n i i i i i i lp rp M)
      case atStart => exact ⟨0, id, id, Nat.zero_le _, rfl, rfl, BL⟩
      case round =>
        clear BL w5
        obtain ⟨i, lp, rp, hi, rfl, rfl, BL⟩ := hrel
        by_cases hlt : i < n
        · obtain ⟨b, o, hix, hb, hra⟩ := h0.get (cap := cap0) hlt
          have hr2 := rangeAt_below hra BL.bel (by omega)
          have hlt' : (i : Int) < (n : Int) := by omega
          have HKi := HK.out i hlt
          have HCi := HC.out i hlt
          have HB : Hid _ := BL
          clear hra BL
          go_upto_region 24 with (refine wpList_load_mid (by rfl) 76 (.tmp 108) (by rfl) b (o + i * 6) (by rfl) [.int .u8 (M.K i), .int .u16 (M.P i), .int .u64 (M.A i), .int .u64 (M.B i), .int .i64 (M.C i), .int .u64 (M.L i)] _ hr2 Yba.underlying76 (by rfl) (by kernel_rfl) ?_)
          clear hr2 hix
          have nb1 := al_new wr (.cells #[.int .u8 (M.K i), .int .u16 (M.P i), .int .u64 (M.A i), .int .u64 (M.B i), .int .i64 (M.C i), .int .u64 (M.L i)] 76) _ rfl
          have b1 : Below wr.heap.size wr (wr.alloc (.cells #[.int .u8 (M.K i), .int .u16 (M.P i), .int .u64 (M.A i), .int .u64 (M.B i), .int .i64 (M.C i), .int .u64 (M.L i)] 76)) := (Below.refl _ _).alloc (Nat.le_refl _) _
          have HB2 : Hid _ := HB.out.below b1
          have HZ : Hid (g + 5 ≤ wr.heap.size) := HB.out.sz
          generalize hgs : wr.heap.size = gs at nb1 b1 HZ ⊢
          generalize (wr.alloc (.cells #[.int .u8 (M.K i), .int .u16 (M.P i), .int .u64 (M.A i), .int .u64 (M.B i), .int .i64 (M.C i), .int .u64 (M.L i)] 76)) = wb at nb1 b1 HB2 ⊢
          have LD0 : ∀ wx, Below wb.heap.size wb wx → (Instr.loadAt 5 (.pointer (some ⟨gs, 0, none⟩))).run Yba.prog wx = .ok (.int .u8 (M.K i)) wx := fun wx hb => by
            have c : wx.cell? ⟨gs, 0, none⟩ = some (.int .u8 (M.K i)) := (hb.cell (p := ⟨gs, 0, none⟩) (Array.getElem?_eq_some_iff.1 nb1).1).trans ((cell_of_row _ _ _ _ _ _ nb1).trans rfl)
            go_simp
          have LD1 : ∀ wx, Below wb.heap.size wb wx → (Instr.loadAt 42 (.pointer (some ⟨gs, 1, none⟩))).run Yba.prog wx = .ok (.int .u16 (M.P i)) wx := fun wx hb => by
            have c : wx.cell? ⟨gs, 1, none⟩ = some (.int .u16 (M.P i)) := (hb.cell (p := ⟨gs, 1, none⟩) (Array.getElem?_eq_some_iff.1 nb1).1).trans ((cell_of_row _ _ _ _ _ _ nb1).trans rfl)
            go_simp
          have HS0 : Below wb.heap.size wb wb.drew := ⟨rfl, rfl, rfl, Nat.le_refl _, fun _ _ => rfl⟩
          go_cut [30] from 110 to 117 (fun s wx => ∃ gp, s = .pointer (some ⟨gp, 0, none⟩) ∧ wx.rangeAt gp 0 (peerP (idk (M.K i)) (M.P i)).toList ∧ gp < wx.heap.size ∧ g + 5 ≤ gp ∧ Below wb.heap.size wb wx)
          case first => as_aux_lemma =>
            refine wp_region_held_drew (S := fun wx => Below wb.heap.size wb wx) (by kernel_rfl) HS0 (fun hS => ?_)
            refine takeH 0 (some 110) (.pointer (some ⟨gs, 0, none⟩)) rfl rfl (by kernel_rfl) (by kernel_rfl) (by kernel_rfl) (fun _ _ _ h => h) (.inl ⟨by rfl, fun w _ => by go_simp⟩) hS ?_
            go_frame
            refine takeH 1 (some 111) (.int .u8 (M.K i)) rfl rfl (by kernel_rfl) (by kernel_rfl) (by kernel_rfl) (fun _ _ _ h => h) (yields_load (by rfl) 5 (.tmp 110) rfl (.pointer (some ⟨gs, 0, none⟩)) _ (by rfl) LD0) hS ?_
            go_frame
            refine takeH 2 (some 112) (.agg (idv (idk (M.K i)))) rfl rfl (by kernel_rfl) (by kernel_rfl) (by kernel_rfl) (fun _ _ _ h => h) (yields_build (by rfl) 30 #[(0, .tmp 111)] rfl #[(0, .int .u8 (M.K i))] (by rfl) _ (build30C _)) hS ?_
            go_frame
            refine takeH 3 (some 113) (.agg #[.int .u64 0, .int .u64 0, .pointer none]) rfl rfl (by kernel_rfl) (by kernel_rfl) (by kernel_rfl) (fun _ _ _ h => h) (yields_build (by rfl) 41 #[] rfl #[] (by rfl) _ build41C) hS ?_
            go_frame
            refine takeH 4 (some 114) (.pointer (some ⟨gs, 1, none⟩)) rfl rfl (by kernel_rfl) (by kernel_rfl) (by kernel_rfl) (fun _ _ _ h => h) (.inl ⟨by rfl, fun w _ => by go_simp⟩) hS ?_
            go_frame
            refine takeH 5 (some 115) (.int .u16 (M.P i)) rfl rfl (by kernel_rfl) (by kernel_rfl) (by kernel_rfl) (fun _ _ _ h => h) (yields_load (by rfl) 42 (.tmp 114) rfl (.pointer (some ⟨gs, 1, none⟩)) _ (by rfl) LD1) hS ?_
            go_frame
            refine wpAnyH_ready (rs := [6, 8]) (by kernel_rfl) (by simp) ?_
            refine readyH_enter 6 (some 116) 9 #[.agg #[.int .u64 0, .int .u64 0, .pointer none], .int .u16 (M.P i)] rfl rfl (by rfl) (by go_simp) ?_ ?_
            · refine (apf_any (M.P i) _).mono ?_
              rintro e w2 ⟨rfl, hb2⟩
              have hS2 : Below wb.heap.size wb w2 := below_more hS (Nat.le_refl _) hb2
              have hz2 := hS2.size
              refine ⟨_, rfl, hS2, ?_⟩
              go_frame
              refine takeH 7 (some 117) (.agg (peerP (idk (M.K i)) (M.P i))) rfl rfl (by kernel_rfl) (by kernel_rfl) (by kernel_rfl) (fun _ _ _ h => h) (yields_build (by rfl) 46 #[(0, .tmp 112), (1, .tmp 116)] rfl #[(0, .agg (idv (idk (M.K i)))), (1, .agg #[.int .u64 0, .int .u64 0, .pointer none, .int .u16 (M.P i)])] (by rfl) _ (build46C _ _)) hS2 ?_
              go_frame
              refine wpAnyH_ready (rs := [8]) (by kernel_rfl) (by simp) ?_
              refine readyH_value 8 (some 30) (.pointer (some ⟨w2.heap.size, 0, none⟩)) (w2.alloc (.cells peer0 46)) rfl rfl (by rfl) (exec_alloc rfl (alloc46 _)) ⟨?_, ?_⟩ ?_
              · exact hS2.alloc hS2.size _
              · go_frame
                have TH : (w2.alloc (.cells peer0 46)).there w2.heap.size 0 20 := there_new rfl (Below.refl _ _)
                refine wpAnyH_ready (rs := [9]) (by kernel_rfl) (by simp) ?_
                refine readyH_store 9 none rfl rfl (by rfl) 46 (.tmp 30) (.tmp 117) rfl w2.heap.size 0 (peerP (idk (M.K i)) (M.P i)) (by rfl) (by rfl) (by rw [peerP_size rfl]; exact TH) (info46' _ (peerP_size rfl _)) (peerP_one rfl _) ⟨below_setCells (hS2.alloc hS2.size _) (Nat.le_refl _) hz2 _ _, ?_⟩ AllReadyH.nil
                refine wpAnyH_done (by kernel_rfl) ?_ _
                go_frame
                go_wp2_with fail
                go_meet
                exact ⟨w2.heap.size, rfl, World.rangeAt_setCells_same _ _ _ _ (by rw [Array.length_toList, peerP_size rfl]; exact TH), by have := (below_setCells (Below.refl (w2.alloc (.cells peer0 46)).heap.size _) (Nat.le_refl _) (Nat.le_refl _) 0 []).size; have h2 := (Turn.setCells (S := fun _ => True) (b := w2.heap.size) trivial (peerP (idk (M.K i)) (M.P i)).toList 0 _ (Turn.refl _ (w2.alloc (.cells peer0 46)))).size; rw [al_size] at h2; omega, by have := HZ.out; have := b1.size; omega, below_setCells (hS2.alloc hS2.size _) (Nat.le_refl _) hz2 _ _⟩
              · exact AllReadyH.nil
            · refine readyH_value 8 (some 30) (.pointer (some ⟨wb.drew.heap.size, 0, none⟩)) (wb.drew.alloc (.cells peer0 46)) rfl rfl (by rfl) (exec_alloc rfl (alloc46 _)) ⟨?_, ?_⟩ ?_
              · exact hS.alloc hS.size _
              · go_frame
                refine wpAnyH_ready (rs := [6]) (by kernel_rfl) (by simp) ?_
                refine readyH_enter 6 (some 116) 9 #[.agg #[.int .u64 0, .int .u64 0, .pointer none], .int .u16 (M.P i)] rfl rfl (by rfl) (by go_simp) ?_ ?_
                · refine (apf_any (M.P i) _).mono ?_
                  rintro e w2 ⟨rfl, hb2⟩
                  have hS2 : Below wb.heap.size wb w2 := below_more (hS.alloc hS.size _) (Nat.le_refl _) hb2
                  have hz2 := hb2.size
                  rw [al_size] at hz2
                  refine ⟨_, rfl, hS2, ?_⟩
                  go_frame
                  refine takeH 7 (some 117) (.agg (peerP (idk (M.K i)) (M.P i))) rfl rfl (by kernel_rfl) (by kernel_rfl) (by kernel_rfl) (fun _ _ _ h => h) (yields_build (by rfl) 46 #[(0, .tmp 112), (1, .tmp 116)] rfl #[(0, .agg (idv (idk (M.K i)))), (1, .agg #[.int .u64 0, .int .u64 0, .pointer none, .int .u16 (M.P i)])] (by rfl) _ (build46C _ _)) hS2 ?_
                  go_frame
                  have TH : w2.there wb.drew.heap.size 0 20 := there_new rfl hb2
                  refine wpAnyH_ready (rs := [9]) (by kernel_rfl) (by simp) ?_
                  refine readyH_store 9 none rfl rfl (by rfl) 46 (.tmp 30) (.tmp 117) rfl wb.drew.heap.size 0 (peerP (idk (M.K i)) (M.P i)) (by rfl) (by rfl) (by rw [peerP_size rfl]; exact TH) (info46' _ (peerP_size rfl _)) (peerP_one rfl _) ⟨below_setCells hS2 (Nat.le_refl _) (Nat.le_refl _) _ _, ?_⟩ AllReadyH.nil
                  refine wpAnyH_done (by kernel_rfl) ?_ _
                  go_frame
                  go_wp2_with fail
                  go_meet
                  exact ⟨wb.drew.heap.size, rfl, World.rangeAt_setCells_same _ _ _ _ (by rw [Array.length_toList, peerP_size rfl]; exact TH), by have h2 := (Turn.setCells (S := fun _ => True) (b := wb.drew.heap.size) trivial (peerP (idk (M.K i)) (M.P i)).toList 0 _ (Turn.refl _ w2)).size; omega, by have := HZ.out; have := b1.size; show g + 5 ≤ wb.heap.size; omega, below_setCells hS2 (Nat.le_refl _) (Nat.le_refl _) _ _⟩
                · exact AllReadyH.nil
              · exact AllReadyH.nil
          case rest => as_aux_lemma =>
            obtain ⟨gp, rfl, hrp, hgp, hgp5, hbc⟩ := hcut
            replace nb1 := kept hbc nb1
            have HB3 : Hid _ := HB2.out.below hbc
            clear LD0 LD1 HS0 HB2 HB b1 hbc
            clear wb
            go_upto_region 26 with (first
              | (refine wpList_load_mid (by rfl) 46 (.tmp 30) (by rfl) gp 0 (by rfl) (peerP (idk (M.K i)) (M.P i)).toList _ hrp Yba.underlying46 (by rfl) (info46l _ (peerP_size rfl _)) ?_)
              | (refine wpList_run (by rfl) (exec_buildSlice (by rfl) (vals := #[(0, .agg (peerP (idk (M.K i)) (M.P i)))]) (by rfl) (buildS50 (M.K i) (M.P i) _)) ?_))
            try go_frame
            have b1 : Below wc.heap.size wc (wc.alloc (.cells (peerP (idk (M.K i)) (M.P i)) 46)) := (Below.refl _ _).alloc (Nat.le_refl _) _
            replace nb1 := kept b1 nb1
            replace hrp := rangeAt_below hrp b1 hgp
            have hgp1 : gp < (wc.alloc (.cells (peerP (idk (M.K i)) (M.P i)) 46)).heap.size := by rw [al_size]; omega
            replace HB3 : Hid _ := HB3.out.below b1
            generalize hgr : wc.heap.size = gr at ⊢
            generalize (wc.alloc (.cells (peerP (idk (M.K i)) (M.P i)) 46)) = w1 at nb1 hrp hgp1 HB3 ⊢
            clear b1 hgp hgr wc
            obtain ⟨us, hus, hfus⟩ := HB3.out.rR.slot hlt
            have HB4 : Hid _ := HB3.out.renR (v := gr)
            have HB5 : Hid _ := HB4.out.putR hlt
            rw [upd_same] at HB5
            have nb2 : (w1.setCell ⟨g + 2, i, none⟩ (.slice (some ⟨gr, 0, none⟩) 1 1)).heap[gs]? = some (.cells #[.int .u8 (M.K i), .int .u16 (M.P i), .int .u64 (M.A i), .int .u64 (M.B i), .int .i64 (M.C i), .int .u64 (M.L i)] 76) :=
              (Below.heap_setCell _ _ _ _ (by have := HZ.out; show gs ≠ g + 2; omega)).trans nb1
            have hrp2 : (w1.setCell ⟨g + 2, i, none⟩ (.slice (some ⟨gr, 0, none⟩) 1 1)).rangeAt gp 0 (peerP (idk (M.K i)) (M.P i)).toList :=
              (Turn.setCell (S := fun k => k = g + 2) (Turn.refl _ _) (p := ⟨g + 2, i, none⟩) rfl _).range hrp hgp1 (by omega)
            have hgp2 : gp < (w1.setCell ⟨g + 2, i, none⟩ (.slice (some ⟨gr, 0, none⟩) 1 1)).heap.size := World.block_lt_of_cell? _ _ (hrp2 0 _ rfl)
            clear nb1 hrp hgp1 HB3 HB4
            go_upto_region 27 with fail
            generalize (w1.setCell ⟨g + 2, i, none⟩ (.slice (some ⟨gr, 0, none⟩) 1 1)) = wd at nb2 hrp2 hgp2 HB5 ⊢
            clear hus hfus us
            clear w1
            have LDP : ∀ wx, Below wd.heap.size wd wx → (Instr.loadAt 46 (.pointer (some ⟨gp, 0, none⟩))).run Yba.prog wx = .ok (.agg (peerP (idk (M.K i)) (M.P i))) wx := fun wx hb => load_many hrp2 hb hgp2 Yba.underlying46 rfl (info46l _ (peerP_size rfl _))
            have hgsl : gs < wd.heap.size := (Array.getElem?_eq_some_iff.1 nb2).1
            have CEL : ∀ wx, Below wd.heap.size wd wx → ∀ j v, #[.int .u8 (M.K i), .int .u16 (M.P i), .int .u64 (M.A i), .int .u64 (M.B i), .int .i64 (M.C i), .int .u64 (M.L i)][j]? = some v → wx.cell? ⟨gs, j, none⟩ = some v := fun wx hb j v hv => (hb.cell (p := ⟨gs, j, none⟩) hgsl).trans ((cell_of_row _ _ _ _ _ _ nb2).trans hv)
            have LD2 : ∀ wx, Below wd.heap.size wd wx → (Instr.loadAt 2 (.pointer (some ⟨gs, 4, none⟩))).run Yba.prog wx = .ok (.int .i64 (M.C i)) wx := fun wx hb => by have c := CEL wx hb 4 _ rfl; clear CEL; go_simp
            have LD3 : ∀ wx, Below wd.heap.size wd wx → (Instr.loadAt 26 (.pointer (some ⟨gs, 2, none⟩))).run Yba.prog wx = .ok (.int .u64 (M.A i)) wx := fun wx hb => by have c := CEL wx hb 2 _ rfl; clear CEL; go_simp
            have LD4 : ∀ wx, Below wd.heap.size wd wx → (Instr.loadAt 26 (.pointer (some ⟨gs, 3, none⟩))).run Yba.prog wx = .ok (.int .u64 (M.B i)) wx := fun wx hb => by have c := CEL wx hb 3 _ rfl; clear CEL; go_simp
            have LD5 : ∀ wx, Below wd.heap.size wd wx → (Instr.loadAt 26 (.pointer (some ⟨gs, 5, none⟩))).run Yba.prog wx = .ok (.int .u64 (M.L i)) wx := fun wx hb => by have c := CEL wx hb 5 _ rfl; clear CEL; go_simp
            have HS0 : Below wd.heap.size wd wd.drew := ⟨rfl, rfl, rfl, Nat.le_refl _, fun _ _ => rfl⟩
            clear CEL
            go_cut [32] from 124 to 142 (fun s wx => ∃ gl, s = .pointer (some ⟨gl, 0, none⟩) ∧ wx.heap[gl]? = some (.cells (lnkC (M.K i) (M.P i) gr (tn (M.C i)) (ts (M.C i)) 0 0 (M.A i) 0 0 (M.B i) 0 0 (M.L i)).toArray 68) ∧ wd.heap.size ≤ gl ∧ Below wd.heap.size wd wx)
            case first => as_aux_lemma =>
              refine wp_region_held_drew (S := fun wx => Below wd.heap.size wd wx) (by kernel_rfl) HS0 (fun hS => ?_)
              refine takeH 0 (some 124) (.agg (peerP (idk (M.K i)) (M.P i))) rfl rfl (by kernel_rfl) (by kernel_rfl) (by kernel_rfl) (fun _ _ _ h => h) (yields_load (by rfl) 46 (.tmp 30) rfl (.pointer (some ⟨gp, 0, none⟩)) _ (by rfl) LDP) hS ?_
              go_frame
              refine takeH 1 (some 125) (.agg (peerP (idk (M.K i)) (M.P i))) rfl rfl (by kernel_rfl) (by kernel_rfl) (by kernel_rfl) (fun _ _ _ h => h) (yields_build (by rfl) 57 #[(0, .tmp 124)] rfl #[(0, .agg (peerP (idk (M.K i)) (M.P i)))] (by rfl) _ (build57C _ _)) hS ?_
              go_frame
              refine takeH 2 (some 126) (.slice (some ⟨gr, 0, none⟩) 1 1) rfl rfl (by kernel_rfl) (by kernel_rfl) (by kernel_rfl) (fun _ _ _ h => h) (yields_move (by rfl) (.tmp 31) rfl _ (by rfl)) hS ?_
              go_frame
              refine takeH 3 (some 127) (.agg #[.int .u64 0, .int .i64 0, .pointer none]) rfl rfl (by kernel_rfl) (by kernel_rfl) (by kernel_rfl) (fun _ _ _ h => h) (yields_build (by rfl) 29 #[] rfl #[] (by rfl) _ build29C) hS ?_
              go_frame
              refine takeH 4 (some 128) (.pointer (some ⟨gs, 4, none⟩)) rfl rfl (by kernel_rfl) (by kernel_rfl) (by kernel_rfl) (fun _ _ _ h => h) (.inl ⟨by rfl, fun w _ => by go_simp⟩) hS ?_
              go_frame
              refine takeH 5 (some 129) (.int .i64 (M.C i)) rfl rfl (by kernel_rfl) (by kernel_rfl) (by kernel_rfl) (fun _ _ _ h => h) (yields_load (by rfl) 2 (.tmp 128) rfl (.pointer (some ⟨gs, 4, none⟩)) _ (by rfl) LD2) hS ?_
              go_frame
              refine takeH 7 (some 131) (.pointer (some ⟨gs, 2, none⟩)) rfl rfl (by kernel_rfl) (by kernel_rfl) (by kernel_rfl) (fun _ _ _ h => h) (.inl ⟨by rfl, fun w _ => by go_simp⟩) hS ?_
              go_frame
              refine takeH 8 (some 132) (.int .u64 (M.A i)) rfl rfl (by kernel_rfl) (by kernel_rfl) (by kernel_rfl) (fun _ _ _ h => h) (yields_load (by rfl) 26 (.tmp 131) rfl (.pointer (some ⟨gs, 2, none⟩)) _ (by rfl) LD3) hS ?_
              go_frame
              refine takeH 9 (some 133) (.slice (some ⟨gr, 0, none⟩) 1 1) rfl rfl (by kernel_rfl) (by kernel_rfl) (by kernel_rfl) (fun _ _ _ h => h) (yields_move (by rfl) (.tmp 31) rfl _ (by rfl)) hS ?_
              go_frame
              refine takeH 10 (some 134) (.agg (pendV (M.A i) 0 0 gr).toArray) rfl rfl (by kernel_rfl) (by kernel_rfl) (by kernel_rfl) (fun _ _ _ h => h) (yields_build (by rfl) 59 #[(0, .tmp 132), (2, .tmp 133)] rfl #[(0, .int .u64 (M.A i)), (2, (.slice (some ⟨gr, 0, none⟩) 1 1))] (by rfl) _ (build59C _ _)) hS ?_
              go_frame
              refine takeH 11 (some 135) (.pointer (some ⟨gs, 3, none⟩)) rfl rfl (by kernel_rfl) (by kernel_rfl) (by kernel_rfl) (fun _ _ _ h => h) (.inl ⟨by rfl, fun w _ => by go_simp⟩) hS ?_
              go_frame
              refine takeH 12 (some 136) (.int .u64 (M.B i)) rfl rfl (by kernel_rfl) (by kernel_rfl) (by kernel_rfl) (fun _ _ _ h => h) (yields_load (by rfl) 26 (.tmp 135) rfl (.pointer (some ⟨gs, 3, none⟩)) _ (by rfl) LD4) hS ?_
              go_frame
              refine takeH 13 (some 137) (.slice (some ⟨gr, 0, none⟩) 1 1) rfl rfl (by kernel_rfl) (by kernel_rfl) (by kernel_rfl) (fun _ _ _ h => h) (yields_move (by rfl) (.tmp 31) rfl _ (by rfl)) hS ?_
              go_frame
              refine takeH 14 (some 138) (.agg (pendV (M.B i) 0 0 gr).toArray) rfl rfl (by kernel_rfl) (by kernel_rfl) (by kernel_rfl) (fun _ _ _ h => h) (yields_build (by rfl) 59 #[(0, .tmp 136), (2, .tmp 137)] rfl #[(0, .int .u64 (M.B i)), (2, (.slice (some ⟨gr, 0, none⟩) 1 1))] (by rfl) _ (build59C _ _)) hS ?_
              go_frame
              refine takeH 15 (some 139) (.pointer (some ⟨gs, 5, none⟩)) rfl rfl (by kernel_rfl) (by kernel_rfl) (by kernel_rfl) (fun _ _ _ h => h) (.inl ⟨by rfl, fun w _ => by go_simp⟩) hS ?_
              go_frame
              refine takeH 16 (some 140) (.int .u64 (M.L i)) rfl rfl (by kernel_rfl) (by kernel_rfl) (by kernel_rfl) (fun _ _ _ h => h) (yields_load (by rfl) 26 (.tmp 139) rfl (.pointer (some ⟨gs, 5, none⟩)) _ (by rfl) LD5) hS ?_
              go_frame
              refine wpAnyH_ready (rs := [6]) (by kernel_rfl) (by simp) ?_
              refine readyH_enter 6 (some 130) 10 #[.agg #[.int .u64 0, .int .i64 0, .pointer none], .int .i64 (M.C i)] rfl rfl (by rfl) (by go_simp) ?_ AllReadyH.nil
              refine (add_zero_any HCi _).mono ?_
              rintro e w2 ⟨rfl, hb2⟩
              have hS2 : Below wd.heap.size wd w2 := below_more hS (Nat.le_refl _) hb2
              refine ⟨_, rfl, hS2, ?_⟩
              go_frame
              refine takeH 17 (some 141) (.agg (lnkC (M.K i) (M.P i) gr (tn (M.C i)) (ts (M.C i)) 0 0 (M.A i) 0 0 (M.B i) 0 0 (M.L i)).toArray) rfl rfl (by kernel_rfl) (by kernel_rfl) (by kernel_rfl) (fun _ _ _ h => h) (yields_build (by rfl) 68 #[(0, .tmp 125), (1, .tmp 126), (3, .tmp 130), (5, .tmp 134), (6, .tmp 138), (7, .tmp 140)] rfl #[(0, .agg (peerP (idk (M.K i)) (M.P i))), (1, (.slice (some ⟨gr, 0, none⟩) 1 1)), (3, .agg #[.int .u64 (tn (M.C i)), .int .i64 (ts (M.C i)), .pointer none]), (5, (.agg (pendV (M.A i) 0 0 gr).toArray)), (6, (.agg (pendV (M.B i) 0 0 gr).toArray)), (7, .int .u64 (M.L i))] (by rfl) _ (build68C _ _ _ _ _ _ _ _)) hS2 ?_
              go_frame
              refine wpAnyH_ready (rs := [18]) (by kernel_rfl) (by simp) ?_
              refine readyH_value 18 (some 142) (.pointer (some ⟨w2.heap.size, 0, none⟩)) (w2.alloc (.cells (lnkC (M.K i) (M.P i) gr (tn (M.C i)) (ts (M.C i)) 0 0 (M.A i) 0 0 (M.B i) 0 0 (M.L i)).toArray 68)) rfl rfl (by rfl) (exec_box rfl (by rfl) (box68 _ _)) ⟨hS2.alloc hS2.size _, ?_⟩ AllReadyH.nil
              go_frame
              refine takeH 19 (some 32) (.pointer (some ⟨w2.heap.size, 0, none⟩)) rfl rfl (by kernel_rfl) (by kernel_rfl) (by kernel_rfl) (fun _ _ _ h => h) (yields_assign (by rfl) (.tmp 142) rfl _ (by rfl)) (hS2.alloc hS2.size _) ?_
              go_frame
              refine wpAnyH_done (by kernel_rfl) ?_ _
              go_wp2_with fail
              go_meet
              exact ⟨_, rfl, al_new _ _ _ rfl, hS2.size, hS2.alloc hS2.size _⟩
            case rest => as_aux_lemma =>
              obtain ⟨gl, rfl, hl1, hgl, hbc⟩ := hcut
              have hrp3 := rangeAt_below hrp2 hbc hgp2
              have hgp3 : gp < wc.heap.size := by have := hbc.size; omega
              have hlp : ∀ j, j < i → lp j ≠ gl := fun j hj => by have := HB5.out.lk.lt hj; omega
              have hgl5 : g + 5 ≤ gl := by have := HB5.out.sz; omega
              have HB6 : Hid _ := (HB5.out.below hbc).link (by unfold Md.lnk; rw [upd_same]; exact hl1) hgl5 hlp
              have HB7 : Hid _ := HB6.out.putL hlt
              rw [upd_same] at HB7
              obtain ⟨us, hus, hfus⟩ := HB6.out.rL.slot hlt
              have hrp4 : (wc.setCell ⟨g, i, none⟩ (.pointer (some ⟨gl, 0, none⟩))).rangeAt gp 0 (idv (idk (M.K i))).toList := by
                have h := (Turn.setCell (S := fun k => k = g) (Turn.refl _ _) (p := ⟨g, i, none⟩) rfl (.pointer (some ⟨gl, 0, none⟩))).range hrp3 hgp3 (by omega)
                exact fun j v hv => h j v (by
                  have hj := (List.getElem?_eq_some_iff.1 hv).1
                  have e : (peerP (idk (M.K i)) (M.P i)).toList = (idv (idk (M.K i))).toList ++ (peerP (idk (M.K i)) (M.P i)).toList.drop 16 := rfl
                  rw [e, List.getElem?_append_left hj]; exact hv)
              clear hrp3 hgp3 hrp2 hgp2 LDP LD2 LD3 LD4 LD5 HS0 HB5 HB6 hl1 hbc nb2 hgsl
              go_upto_region 29 with fail
              generalize (wc.setCell ⟨g, i, none⟩ (.pointer (some ⟨gl, 0, none⟩))) = we at HB7 hrp4 ⊢
              clear hus hfus us
              have TH := HB7.out.rI.room hlt
              have HB8 : Hid _ := HB7.out.putI hlt
              go_upto_region 30 with (first
                | (refine wpList_load_mid (by rfl) 30 (.tmp 149) (by rfl) gp 0 (by rfl) (idv (idk (M.K i))).toList _ hrp4 Yba.underlying30 (by rfl) (info30l rfl) ?_)
                | (refine wpList_store_mid (by rfl) 30 (.tmp 151) (.tmp 150) (by rfl) (g + 1) (i * 16) (idv (idk (M.K i))) (by rfl) (by rfl) TH (by kernel_rfl) (idv_one _) ?_))
              try go_frame
              clear TH hrp4 HB7
              generalize (we.setCells (g + 1) (i * 16) (idv (idk (M.K i))).toList) = wf at HB8 ⊢
              have hbk := HB8.out.lk.at_ i (by omega)
              rw [upd_same] at hbk
              unfold Md.lnk at hbk
              rw [upd_same] at hbk
              have hr1 : wf.rangeAt gl 30 (pendV (M.A i) 0 0 gr) := range_of_block hbk 30 _ (fun j v hv => by
                match j, hv with
                | 0, hv => exact hv
                | 1, hv => exact hv
                | 2, hv => exact hv
                | 3, hv => exact hv
                | 4, hv => exact hv)
              have TH := HB8.out.rP.room hlt
              have HB9 : Hid _ := HB8.out.putP hlt
              rw [upd_same] at HB9
              clear hbk
              go_upto_region 31 with (first
                | (refine wpList_load_mid (by rfl) 59 (.tmp 156) (by rfl) gl 30 (by rfl) (pendV (M.A i) 0 0 gr) _ hr1 Yba.underlying59 (by rfl) (by kernel_rfl) ?_)
                | (refine wpList_store_mid (by rfl) 59 (.tmp 158) (.tmp 157) (by rfl) (g + 3) (i * 5) (pendV (M.A i) 0 0 gr).toArray (by rfl) (by rfl) TH (by kernel_rfl) (pendV_one _ _ _ _) ?_))
              try go_frame
              clear TH hr1 HB8
              generalize (wf.setCells (g + 3) (i * 5) (pendV (M.A i) 0 0 gr)) = wg at HB9 ⊢
              have hbk := HB9.out.lk.at_ i (by omega)
              rw [upd_same] at hbk
              unfold Md.lnk at hbk
              rw [upd_same] at hbk
              have hr1 : wg.rangeAt gl 35 (pendV (M.B i) 0 0 gr) := range_of_block hbk 35 _ (fun j v hv => by
                match j, hv with
                | 0, hv => exact hv
                | 1, hv => exact hv
                | 2, hv => exact hv
                | 3, hv => exact hv
                | 4, hv => exact hv)
              have TH := HB9.out.rB.room hlt
              have HBA : Hid _ := HB9.out.putB hlt
              rw [upd_same] at HBA
              clear hbk
              go_upto_region 22 with (first
                | (refine wpList_load_mid (by rfl) 59 (.tmp 163) (by rfl) gl 35 (by rfl) (pendV (M.B i) 0 0 gr) _ hr1 Yba.underlying59 (by rfl) (by kernel_rfl) ?_)
                | (refine wpList_store_mid (by rfl) 59 (.tmp 165) (.tmp 164) (by rfl) (g + 4) (i * 5) (pendV (M.B i) 0 0 gr).toArray (by rfl) (by rfl) TH (by kernel_rfl) (pendV_one _ _ _ _) ?_))
              try go_frame
              clear TH hr1 HB9
              generalize (wg.setCells (g + 4) (i * 5) (pendV (M.B i) 0 0 gr)) = wh at HBA ⊢
              go_wp2_with fail
              go_roundg (n - (i + 1))
              case measure => omega
              case rel => exact ⟨i + 1, _, _, by omega, rfl, by go_num, HBA.out⟩
        · have hii : i = n := by omega
          subst hii
          have hlt' : ¬ (i : Int) < (i : Int) := by omega
          go_wp2_with fail
          go_meet
          exact ⟨lp, rp, BL⟩
    case rest => as_aux_lemma =>
      clear BL w5
      obtain ⟨lp, rp, BL⟩ := hcut
      have f22 := BL.bs.tf 22
      have f23 := BL.bs.tf 23
      have c22 := BL.c22
      have c23 := BL.c23
      have RD : Hid _ := BL.ready hgqt hgmt (fun b hb => by have := hrm b hb; omega)
      clear BL
      go_upto_region 34 with fail
      clear f22 f23 c22 c23
      generalize ((wc.setCell ⟨gt, 22, none⟩ (.slice (some ⟨g, 0, none⟩) n n)).setCell ⟨gt, 23, none⟩ (.slice (some ⟨g + 1, 0, none⟩) n n)) = w5 at RD ⊢
      go_upto_region 35 with (first
        | (refine wpList_build (by rfl) 29 #[] (by rfl) #[] (by rfl) (.agg #[.int .u64 0, .int .i64 0, .pointer none]) (by rfl) ?_)
        | (go_at_call 10; refine (add_zero_any hnow _).mono ?_; rintro e w6 ⟨rfl, hb6⟩))
      have p1 := al_new w6 (.cells #[.int .u64 (tn nowN), .int .i64 (ts nowN), .pointer none] 29) _ rfl
      have bA : Below w5.heap.size w5 (w6.alloc (.cells #[.int .u64 (tn nowN), .int .i64 (ts nowN), .pointer none] 29)) := hb6.alloc hb6.size _
      have HLN : Hid (∀ j, j < n → lp j < w6.heap.size) := fun j hj => by have := RD.out.lk.lt hj; have := hb6.size; omega
      have HGN : Hid (g + 5 ≤ w6.heap.size) := by have := RD.out.sz; have := hb6.size; show _ ≤ _; omega
      replace RD : Hid _ := RD.out.below bA
      have bn0 := tn_lo nowN
      have bn1 := tn_hi nowN
      have bn2 := ts_in hnow
      generalize hgN : w6.heap.size = gN at p1 HLN HGN ⊢
      generalize (w6.alloc (.cells #[.int .u64 (tn nowN), .int .i64 (ts nowN), .pointer none] 29)) = w7 at p1 RD ⊢
      generalize tn nowN = nn at p1 bn0 bn1
      generalize ts nowN = ns at p1 bn2
      clear bA hb6 hgN w6
      go_upto_if 174 with fail
      go_cut [34, 35, 36] from 173 to 189 (fun k p _ wx => ∃ kk pp, k = .int .u8 kk ∧ p = .int .u16 pp ∧ (Lit.int .u8 kk).wf = true ∧ Below w7.heap.size w7 wx)
      case first => as_aux_lemma =>
        by_cases hpos : 0 < n
        · have hpos' : (0 : Int) < (n : Int) := by omega
          rw [show decide (0 < n) = true by simpa using hpos]
          obtain ⟨q, hq⟩ : ∃ q : Nat, q = pk.toNat % n := ⟨_, rfl⟩
          have hql : q < n := by rw [hq]; exact Nat.mod_lt _ hpos
          obtain ⟨b, o, hix, hb, hra⟩ := h0.get (cap := cap0) hql
          have hidx : pk % (n : Int) = (q : Int) := by rw [hq, Int.natCast_emod, Int.toNat_of_nonneg (by omega)]
          have hl0 : (n : Int) ≠ 0 := by omega
          have hr2 := rangeAt_below hra RD.out.bel (by omega)
          have HW := HK.out q hql
          clear hq hra
          go_wp2_with (refine wpList_load_mid (by rfl) 76 (.tmp 180) (by rfl) b (o + q * 6) (by rfl) [.int .u8 (M.K q), .int .u16 (M.P q), .int .u64 (M.A q), .int .u64 (M.B q), .int .i64 (M.C q), .int .u64 (M.L q)] _ hr2 Yba.underlying76 (by rfl) (by kernel_rfl) ?_)
          go_meet
          exact ⟨_, _, rfl, rfl, HW, (Below.refl _ _).alloc (Nat.le_refl _) _⟩
        · have hpos' : ¬ (0 : Int) < (n : Int) := by omega
          go_wp2_with fail
          go_meet
          exact ⟨_, _, rfl, rfl, hpw, Below.refl _ _⟩
      case rest => as_aux_lemma =>
        obtain ⟨kk, pp, rfl, rfl, hkk, hb8⟩ := hcut
        replace RD : Hid _ := RD.out.below hb8
        replace p1 := kept hb8 p1
        clear hb8 w7
        go_upto_region 46 with (first
          | (refine wpList_build (by rfl) 30 #[(0, .tmp 190)] (by rfl) #[(0, .int .u8 kk)] (by rfl) (.agg (idv (idk kk))) (build30C kk _) ?_)
          | (refine wpList_build (by rfl) 41 #[] (by rfl) #[] (by rfl) (.agg #[.int .u64 0, .int .u64 0, .pointer none]) (build41C _) ?_)
          | (go_at_call 9; refine (apf_any pp _).mono ?_; rintro e w9 ⟨rfl, hb9⟩)
          | (refine wpList_build (by rfl) 46 #[(0, .tmp 191), (1, .tmp 194)] (by rfl) #[(0, .agg (idv (idk kk))), (1, .agg #[.int .u64 0, .int .u64 0, .pointer none, .int .u16 pp])] (by rfl) (.agg (peerP (idk kk) pp)) (build46C kk pp _) ?_)
          | (refine wpList_store_new (by rfl) 46 (.tmp 37) (.tmp 195) (by rfl) w9 _ (peerP (idk kk) pp) 46 w9.heap.size rfl (by rfl) (by rfl) (by rfl) (by rfl) (info46' _ (peerP_size rfl _)) (peerP_one rfl _) ?_))
        try go_frame
        have hz9 := hb9.size
        have hNl := (Array.getElem?_eq_some_iff.1 p1).1
        have bA : Below wc.heap.size wc ((w9.alloc (.cells (peerP (idk kk) pp) 46)).alloc (.cells #[.int .i64 0] 3)) := (hb9.alloc hb9.size _).alloc (by rw [al_size]; omega) _
        have x1 := al_old _ (.cells #[.int .i64 0] 3) _ _ (al_new w9 (.cells (peerP (idk kk) pp) 46) _ rfl)
        have x2 := al_new (w9.alloc (.cells (peerP (idk kk) pp) 46)) (.cells #[.int .i64 0] 3) (w9.heap.size + 1) (al_size _ _).symm
        have HLL : Hid (∀ j, j < n → lp j < w9.heap.size) := fun j hj => by have := RD.out.lk.lt hj; omega
        have HGL : Hid (g + 5 ≤ w9.heap.size) := by have := RD.out.sz; show _ ≤ _; omega
        replace RD : Hid _ := RD.out.below bA
        replace p1 := kept bA p1
        have hNx : gN < w9.heap.size := by omega
        generalize hg9 : w9.heap.size = gx at x1 x2 HLL HGL hNx ⊢
        generalize ((w9.alloc (.cells (peerP (idk kk) pp) 46)).alloc (.cells #[.int .i64 0] 3)) = wA at x1 x2 RD p1 ⊢
        clear bA hb9 hz9 hNl hg9
        clear wc w9
        obtain ⟨rr, hF⟩ := fst_exists n M.K kk
        have lq := RD.out.lq
        have ltt := RD.out.lt
        have BA := back_all gt (g + 1) g gm (gx + 1) gq n (g + 5) nd lp rp M kk pp nn ns rq dig tick r ((List.range n1).map fun j => idk (D j)) rr hkk HK.out hn hF bn0 bn1 bn2 HC.out hnd wA RD.out.bs RD.out.c22 RD.out.c23 RD.out.rI RD.out.rL RD.out.lk (by omega) (by omega)
          ((cell_of_row _ _ _ _ _ _ x2).trans rfl) (frozen_of_row _ _ _ _ _ x2) (by have := HGL.out; omega) (by have := HGL.out; omega) (fun j hj => by have := HLL.out j hj; omega)
        have HM3 : Hid _ := modeC_three M pp (decide (idk kk ∈ (List.range n1).map fun j => idk (D j))) nn ns tick rr
        generalize hmq : modeC M pp (decide (idk kk ∈ (List.range n1).map fun j => idk (D j))) nn ns tick rr = m at BA HM3
        have HMQ : Hid _ := hmq
        have HF : Hid _ := hF
        clear hF hmq
        go_upto_region 47 with (first
          | (refine wpList_load_row (by rfl) 46 (.tmp 37) (by rfl) gx (by rfl) 46 (peerP (idk kk) pp) (0, 0) _ x1 Yba.underlying46 (by rfl) (info46' _ (peerP_size rfl _)) ?_)
          | (refine wpList_load_row (by rfl) 29 (.tmp 33) (by rfl) gN (by rfl) 29 #[.int .u64 nn, .int .i64 ns, .pointer none] (0, 0) _ p1 Yba.underlying29 (by rfl) (by kernel_rfl) ?_)
          | (go_at_call 12; refine BA.mono ?_; rintro e wB ⟨bk, pv, rfl, AF⟩))
        try go_frame
        have FN : Hid _ := RD.out.fin p1 HLN.out (by omega) HGN.out AF
        clear BA AF RD HLN HGN HLL HGL x1 x2 p1 lq ltt
        clear wA
        go_upto_block 4 with fail
        go_cut [42, 43] from 204 to 216 (fun s _ wx => s = .int .i64 (ixv rr) ∧ Hid (Fin6 w wx gq gt g gN (gx + 1) rq dig nn ns n lp rp M m bk pv rr))
        case first => as_aux_lemma =>
          go_wp2_with fail
          go_loopg [42, 43] n (fun k s i wr => ∃ j : Nat, j ≤ n ∧ k = n - j ∧ s = .int .i64 (-1) ∧ i = .int .i64 j ∧ Hid (∀ t, t < j → M.K t ≠ kk) ∧ Hid (Fin6 w wr gq gt g gN (gx + 1) rq dig nn ns n lp rp M m bk pv rr))
          case atStart => exact ⟨0, Nat.zero_le _, rfl, rfl, rfl, fun t ht => by omega, FN⟩
          case round =>
            clear FN wB
            obtain ⟨j, hj, rfl, rfl, rfl, HJ, FN⟩ := hrel
            by_cases hlt : j < n
            · have hlt' : (j : Int) < (n : Int) := by omega
              obtain ⟨b, o, hix, hb, hra⟩ := h0.get (cap := cap0) hlt
              have hr2 : wr.cell? ⟨b, o + j * 6, none⟩ = some (.int .u8 (M.K j)) := (FN.out.bel.cell (p := ⟨b, o + j * 6, none⟩) (show b < gq by omega)).trans (hra 0 _ rfl)
              clear hra
              by_cases e : M.K j = kk
              · have hr : rr = some j := by
                  have hF := HF.out
                  cases rr with
                  | none => exact absurd e (hF j hlt)
                  | some i =>
                    rcases Nat.lt_trichotomy i j with h | h | h
                    · exact absurd hF.2.1 (HJ.out i h)
                    · rw [h]
                    · exact absurd e (hF.2.2 j h)
                have HR : Hid (ixv rr = (j : Int)) := by rw [hr]; rfl
                clear hr
                rw [e] at hr2
                clear e
                go_wp2_with fail
                go_meet
                exact ⟨by rw [HR.out], FN⟩
              · have HJ2 : Hid (∀ t, t < j + 1 → M.K t ≠ kk) := by
                  intro t ht
                  rcases Nat.lt_succ_iff_lt_or_eq.1 ht with h | h
                  · exact HJ.out t h
                  · subst h; exact e
                generalize M.K j = x at hr2 e
                go_wp2_with fail
                go_roundg (n - (j + 1))
                case measure => omega
                case rel => exact ⟨j + 1, by omega, rfl, rfl, by go_num, HJ2, FN⟩
            · have hlt' : ¬ (j : Int) < (n : Int) := by omega
              have HR : Hid (ixv rr = -1) := by
                have hF := HF.out
                cases rr with
                | none => rfl
                | some i => exact absurd hF.2.1 (HJ.out i (by have := hF.1; omega))
              go_wp2_with fail
              go_meet
              exact ⟨by rw [HR.out], FN⟩
        case rest => as_aux_lemma =>
          obtain ⟨rfl, FN2⟩ := hcut
          clear FN wB
          go_upto_region 54 with fail
          go_cut [227] from 217 to 226 (fun s wx => s = .bool (portIs M pp rr) ∧ Hid (Fin6 w wx gq gt g gN (gx + 1) rq dig nn ns n lp rp M m bk pv rr))
          case first => as_aux_lemma =>
            have HRI : ∀ i, rr = some i → i < n := fun i hi => by have hF := HF.out; rw [hi] at hF; exact hF.1
            cases rr with
            | none =>
              rw [show ixv none = -1 from rfl]
              go_wp2_with fail
              go_meet
              exact ⟨rfl, FN2⟩
            | some i =>
              rw [show ixv (some i) = (i : Int) from rfl]
              have hlt := HRI i rfl
              obtain ⟨b, o, hix, hb, hra⟩ := h0.get (cap := cap0) hlt
              have hr2 : wc.cell? ⟨b, o + i * 6 + 1, none⟩ = some (.int .u16 (M.P i)) := (FN2.out.bel.cell (p := ⟨b, o + i * 6 + 1, none⟩) (show b < gq by omega)).trans (hra 1 _ rfl)
              have h0i : (0 : Int) ≤ (i : Int) := by omega
              clear hra HRI
              by_cases e : M.P i = pp
              · have HE : Hid (portIs M pp (some i) = true) := by show _ = _; simp [portIs, e]
                rw [e] at hr2
                clear e
                go_wp2_with fail
                go_meet
                exact ⟨by rw [HE.out], FN2⟩
              · have HE : Hid (portIs M pp (some i) = false) := by show _ = _; simp [portIs, e]
                generalize M.P i = x at hr2 e
                go_wp2_with fail
                go_meet
                exact ⟨by rw [HE.out]; simp [e], FN2⟩
          case rest => as_aux_lemma =>
            obtain ⟨rfl, FN⟩ := hcut
            clear FN2
            rename_i wOld
            go_upto_if 227 with fail
            go_cut [44, 45, 47, 48, 49] from 227 to 262 (fun s _ _ _ _ wx => s = .int .i64 m ∧ Hid (Fin6 w wx gq gt g gN (gx + 1) rq dig nn ns n lp rp M m bk pv rr))
            case first => as_aux_lemma =>
              cases hp : portIs M pp rr with
              | false =>
                have HMZ : Hid (m = 0) := by
                  have := HMQ.out
                  show m = 0
                  rw [← this]
                  cases rr with
                  | none => rfl
                  | some i =>
                    simp only [modeC]
                    rw [if_neg]
                    rintro ⟨h, _⟩
                    simp [portIs, h] at hp
                clear hp
                go_wp2_with fail
                go_meet
                exact ⟨by rw [HMZ.out], FN⟩
              | true =>
                obtain ⟨i, hri, hpi⟩ : ∃ i, rr = some i ∧ M.P i = pp := by
                  cases rr with
                  | none => cases hp
                  | some i => exact ⟨i, rfl, by simpa [portIs] using hp⟩
                have hlt : i < n := by have hF := HF.out; rw [hri] at hF; exact hF.1
                subst hri
                have HMI : Hid (modeC M pp (decide (idk kk ∈ (List.range n1).map fun j => idk (D j))) nn ns tick (some i) = m) := HMQ.out
                have HPI : Hid (M.P i = pp) := hpi
                rw [show ixv (some i) = (i : Int) from rfl]
                clear hp hpi
                go_upto_block 6 with fail
                go_cut [45, 47] from 230 to 237 (fun s _ wx => s = .bool (decide (idk kk ∈ (List.range n1).map fun j => idk (D j))) ∧ Hid (Fin6 w wx gq gt g gN (gx + 1) rq dig nn ns n lp rp M m bk pv (some i)))
                case first => as_aux_lemma =>
                  go_wp2_with fail
                  go_loopg [45, 230] n1 (fun k s ii wr => ∃ j : Nat, j ≤ n1 ∧ k = n1 - j ∧ s = .bool false ∧ ii = .int .i64 j ∧ Hid (∀ t, t < j → D t ≠ kk) ∧ Hid (Fin6 w wr gq gt g gN (gx + 1) rq dig nn ns n lp rp M m bk pv (some i)))
                  case atStart => exact ⟨0, Nat.zero_le _, rfl, rfl, rfl, fun t ht => by omega, FN⟩
                  case round =>
                    clear FN
                    obtain ⟨j, hj, rfl, rfl, rfl, HJ, FN⟩ := hrel
                    by_cases hlt1 : j < n1
                    · have hlt' : (j : Int) < (n1 : Int) := by omega
                      obtain ⟨b, o, hix, hb, hra⟩ := h1.get (cap := cap1) hlt1
                      have hr2 : wr.cell? ⟨b, o + j, none⟩ = some (.int .u8 (D j)) := (FN.out.bel.cell (p := ⟨b, o + j, none⟩) (show b < gq by omega)).trans hra
                      clear hra
                      by_cases e : D j = kk
                      · have HR : Hid (decide (idk kk ∈ (List.range n1).map fun j => idk (D j)) = true) := by
                          show _ = _
                          simp only [decide_eq_true_eq, List.mem_map, List.mem_range]
                          exact ⟨j, hlt1, by rw [e]⟩
                        rw [e] at hr2
                        clear e
                        go_wp2_with fail
                        go_meet
                        exact ⟨by rw [HR.out], FN⟩
                      · have HJ2 : Hid (∀ t, t < j + 1 → D t ≠ kk) := by
                          intro t ht
                          rcases Nat.lt_succ_iff_lt_or_eq.1 ht with h | h
                          · exact HJ.out t h
                          · subst h; exact e
                        generalize D j = x at hr2 e
                        go_wp2_with fail
                        go_roundg (n1 - (j + 1))
                        case measure => omega
                        case rel => exact ⟨j + 1, by omega, rfl, rfl, by go_num, HJ2, FN⟩
                    · have hlt' : ¬ (j : Int) < (n1 : Int) := by omega
                      have HR : Hid (decide (idk kk ∈ (List.range n1).map fun j => idk (D j)) = false) := by
                        show _ = _
                        simp only [decide_eq_false_iff_not, List.mem_map, List.mem_range]
                        rintro ⟨t, ht, e⟩
                        exact HJ.out t (by omega) (idk_inj.1 e)
                      go_wp2_with fail
                      go_meet
                      exact ⟨by rw [HR.out], FN⟩
                case rest => as_aux_lemma =>
                  obtain ⟨rfl, FN2⟩ := hcut
                  clear FN
                  obtain ⟨dd, hdd⟩ : ∃ dd, decide (idk kk ∈ (List.range n1).map fun j => idk (D j)) = dd := ⟨_, rfl⟩
                  rw [hdd] at HMI ⊢
                  clear hdd
                  obtain ⟨b, o, hix, hb, hra⟩ := h0.get (cap := cap0) hlt
                  have hr2 := rangeAt_below hra FN2.out.bel (by omega)
                  have HCi := HC.out i hlt
                  have h0i : (0 : Int) ≤ (i : Int) := by omega
                  clear hra
                  go_upto_region 63 with (refine wpList_load_mid (by rfl) 76 (.tmp 240) (by rfl) b (o + i * 6) (by rfl) [.int .u8 (M.K i), .int .u16 (M.P i), .int .u64 (M.A i), .int .u64 (M.B i), .int .i64 (M.C i), .int .u64 (M.L i)] _ hr2 Yba.underlying76 (by rfl) (by kernel_rfl) ?_)
                  try go_frame
                  have nb1 := al_new wc (.cells #[.int .u8 (M.K i), .int .u16 (M.P i), .int .u64 (M.A i), .int .u64 (M.B i), .int .i64 (M.C i), .int .u64 (M.L i)] 76) _ rfl
                  have FN : Hid _ := FN2.out.below ((Below.refl wc.heap.size wc).alloc (Nat.le_refl _) (.cells #[.int .u8 (M.K i), .int .u16 (M.P i), .int .u64 (M.A i), .int .u64 (M.B i), .int .i64 (M.C i), .int .u64 (M.L i)] 76))
                  generalize hgs : wc.heap.size = gs at nb1 ⊢
                  generalize (wc.alloc (.cells #[.int .u8 (M.K i), .int .u16 (M.P i), .int .u64 (M.A i), .int .u64 (M.B i), .int .i64 (M.C i), .int .u64 (M.L i)] 76)) = wd at nb1 FN ⊢
                  clear FN2 hr2 hix hgs
                  clear wc
                  have y2 : wd.cell? ⟨gs, 2, none⟩ = some (.int .u64 (M.A i)) := (cell_of_row _ _ _ _ _ _ nb1).trans rfl
                  have y3 : wd.cell? ⟨gs, 3, none⟩ = some (.int .u64 (M.B i)) := (cell_of_row _ _ _ _ _ _ nb1).trans rfl
                  have y4 : wd.cell? ⟨gs, 4, none⟩ = some (.int .i64 (M.C i)) := (cell_of_row _ _ _ _ _ _ nb1).trans rfl
                  clear nb1
                  by_cases hno : dd = false ∧ M.A i = 0 ∧ M.B i = 0
                  · obtain ⟨rfl, eA, eB⟩ := hno
                    have p1 := FN.out.cN
                    have SU := sub_any nn ns (tn (M.C i)) (ts (M.C i)) bn0 bn1 (tn_lo _) (tn_hi _) bn2 (ts_in HCi)
                    have AD := fun w => add_zero_any HCi w
                    rw [eA] at y2
                    rw [eB] at y3
                    have HMJ : Hid ((if tick ≤ subT nn ns (tn (M.C i)) (ts (M.C i)) then (1 : Int) else 2) = m) := by
                      have := HMI.out
                      simp only [modeC] at this
                      rw [if_pos ⟨HPI.out, (by trivial), eA, eB⟩] at this
                      exact this
                    clear eA eB HMI HPI
                    generalize tn (M.C i) = cn at SU AD HMJ
                    generalize ts (M.C i) = cs at SU AD HMJ
                    generalize M.C i = cf at y4 AD
                    generalize subT nn ns cn cs = dv at SU HMJ
                    clear HCi
                    go_upto_region 65 with (go_at_call 10; refine (AD _).mono ?_; rintro e w6 ⟨rfl, hb6⟩)
                    try go_frame
                    clear AD y2 y3 y4
                    have p2 := al_new w6 (.cells #[.int .u64 cn, .int .i64 cs, .pointer none] 29) _ rfl
                    have bA : Below wd.heap.size wd (w6.alloc (.cells #[.int .u64 cn, .int .i64 cs, .pointer none] 29)) := hb6.alloc hb6.size _
                    replace FN : Hid _ := FN.out.below bA
                    replace p1 := kept bA p1
                    generalize hg6 : w6.heap.size = g6 at p2 ⊢
                    generalize (w6.alloc (.cells #[.int .u64 cn, .int .i64 cs, .pointer none] 29)) = w7 at p1 p2 FN ⊢
                    clear bA hb6 hg6
                    clear wd w6
                    by_cases hd : tick ≤ dv
                    · rw [if_pos hd] at HMJ
                      go_wp2_with (first
                        | (refine wpList_load_row (by rfl) 29 (.tmp 33) (by rfl) gN (by rfl) 29 #[.int .u64 nn, .int .i64 ns, .pointer none] (0, 0) _ p1 Yba.underlying29 (by rfl) (by kernel_rfl) ?_)
                        | (refine wpList_load_row (by rfl) 29 (.tmp 49) (by rfl) g6 (by rfl) 29 #[.int .u64 cn, .int .i64 cs, .pointer none] (0, 0) _ p2 Yba.underlying29 (by rfl) (by kernel_rfl) ?_)
                        | (go_at_call 13; refine (SU _).mono ?_; rintro e w8 ⟨rfl, hb8⟩; (replace FN : Hid _ := FN.out.below hb8); clear SU p1 p2 hb8))
                      go_meet
                      exact ⟨by rw [HMJ.out], FN⟩
                    · rw [if_neg hd] at HMJ
                      go_wp2_with (first
                        | (refine wpList_load_row (by rfl) 29 (.tmp 33) (by rfl) gN (by rfl) 29 #[.int .u64 nn, .int .i64 ns, .pointer none] (0, 0) _ p1 Yba.underlying29 (by rfl) (by kernel_rfl) ?_)
                        | (refine wpList_load_row (by rfl) 29 (.tmp 49) (by rfl) g6 (by rfl) 29 #[.int .u64 cn, .int .i64 cs, .pointer none] (0, 0) _ p2 Yba.underlying29 (by rfl) (by kernel_rfl) ?_)
                        | (go_at_call 13; refine (SU _).mono ?_; rintro e w8 ⟨rfl, hb8⟩; (replace FN : Hid _ := FN.out.below hb8); clear SU p1 p2 hb8))
                      go_meet
                      exact ⟨by rw [HMJ.out], FN⟩
                  · have HMZ : Hid (m = 0) := by
                      have := HMI.out
                      show m = 0
                      rw [← this]
                      simp only [modeC]
                      rw [if_neg]
                      rintro ⟨_, h1, h2, h3⟩
                      exact hno ⟨h1, h2, h3⟩
                    clear HMI HPI
                    generalize M.A i = xa at y2 hno
                    generalize M.B i = xb at y3 hno
                    cases dd
                    · by_cases ea : xa = 0
                      · have eb : xb ≠ 0 := fun e => hno ⟨rfl, ea, e⟩
                        subst ea
                        clear hno
                        go_wp2_with fail
                        go_meet
                        exact ⟨by rw [HMZ.out], FN⟩
                      · clear hno
                        go_wp2_with fail
                        go_meet
                        exact ⟨by rw [HMZ.out], FN⟩
                    · clear hno
                      go_wp2_with fail
                      go_meet
                      exact ⟨by rw [HMZ.out], FN⟩
            case rest => as_aux_lemma =>
              obtain ⟨rfl, FN2⟩ := hcut
              clear FN
              go_upto_block 8 with fail
              go_cut [] from 264 to 332 (fun wx => Hid (Fin6 w wx gq gt g gN (gx + 1) rq dig nn ns n lp rp M m bk pv rr))
              case first => as_aux_lemma =>
                have HRI : ∀ i, rr = some i → i < n := fun i hi => by have hF := HF.out; rw [hi] at hF; exact hF.1
                rcases HM3.out with hm | hm | hm
                · subst hm
                  obtain rfl := FN2.out.m0 (by decide)
                  have hbk := FN2.out.bk_
                  rw [if_neg (by decide)] at hbk
                  subst hbk
                  have cc := FN2.out.cc
                  rw [if_pos rfl] at cc
                  clear HRI
                  go_wp2_with fail
                  go_meet
                  exact FN2
                · subst hm
                  obtain ⟨i, go, ge, hri, rfl, hgo, hge⟩ := FN2.out.m1 rfl
                  have hlt := HRI i hri
                  subst hri
                  rw [show ixv (some i) = (i : Int) from rfl]
                  have hbk := FN2.out.bk_
                  rw [if_neg (by decide)] at hbk
                  subst hbk
                  have cc := FN2.out.cc
                  rw [if_neg (by decide)] at cc
                  have g0 : wc.cell? ⟨go, 0, none⟩ = some (.slice (some ⟨rp i, 0, none⟩) 1 1) := (cell_of_row _ _ _ _ _ _ hgo).trans rfl
                  have g1 : wc.cell? ⟨go, 1, none⟩ = some (.pointer (some ⟨ge, 0, none⟩)) := (cell_of_row _ _ _ _ _ _ hgo).trans rfl
                  have rR := FN2.out.rR.cell hlt
                  have E2 := ptr87_neq ⟨rp i, 0, none⟩
                  obtain ⟨b, o, hix, hb, hra⟩ := h0.get (cap := cap0) hlt
                  have hr5 : wc.cell? ⟨b, o + i * 6 + 5, none⟩ = some (.int .u64 (M.L i)) := (FN2.out.bel.cell (p := ⟨b, o + i * 6 + 5, none⟩) (show b < gq by omega)).trans (hra 5 _ rfl)
                  have cq := FN2.out.cq
                  have h0i : (0 : Int) ≤ (i : Int) := by omega
                  have hin : (i : Int) < (n : Int) := by omega
                  have FE : ∀ k, Hid (Fin6 w (wc.drewN k) gq gt g gN (gx + 1) rq dig nn ns n lp rp M 1 0 (.pointer (some ⟨go, 0, none⟩)) (some i)) := fun k => FN2.out.below ⟨rfl, rfl, rfl, Nat.le_refl _, fun _ _ => rfl⟩
                  have HG : Hid _ := hge
                  clear hra HRI hgo hge
                  generalize M.L i = li at hr5 HG
                  generalize rp i = ri at g0 rR E2
                  go_upto_region 75 with fail
                  go_quiet (fail)
                  have Q1 : (wc.drewN nq).cell? ⟨go, 1, none⟩ = some (.pointer (some ⟨ge, 0, none⟩)) := g1
                  have Q2 : (wc.drewN nq).cell? ⟨gq, 0, none⟩ = some (.int .u64 rq) := cq
                  have Q3 : (wc.drewN nq).cell? ⟨b, o + i * 6 + 5, none⟩ = some (.int .u64 li) := hr5
                  have Q4 : (wc.drewN nq).heap[ge]? = some (.cells (msgC rq li dig) 104) := HG.out
                  have Q5 := FE nq
                  generalize (wc.drewN nq) = wq at Q1 Q2 Q3 Q4 Q5 ⊢
                  clear FE HG g0 g1 rR hr5 cq cc E2
                  go_upto_region 77 with fail
                  have C1 : ∀ d os, Calls Yba.prog 14 #[.pointer (some ⟨ge, 0, none⟩), .int .u64 rq, .int .u64 li, .int .u64 dig] (grow (redrawn wq d) os) fun e w'' => e = .returned (.bool true) ∧ ∃ p : Regrown, w'' = grow (redrawn wq p.d) p.os :=
                    fun d os => Calls.regrown_of ((msg_true ge rq li dig _ (kept (below_regrown wq d os) Q4)).mono (fun e w' h => ⟨h.1, h.2 ▸ Below.refl _ _⟩))
                  replace Q1 := cell_regrown Q1
                  replace Q2 := cell_regrown Q2
                  replace Q3 := cell_regrown Q3
                  clear Q4
                  refine wp_region_quiet_below (by kernel_rfl) (by kernel_rfl) ?_
                  repeat (go_big_quiet_step (with_reducible exact C1 _ _))
                  refine wpQuiet_nil ?_
                  rintro _ ⟨⟨dq, oq⟩, rfl⟩
                  have FF : Hid _ := Q5.out.below (below_regrown wq dq oq)
                  clear C1 Q1 Q2 Q3 Q5
                  go_wp2_with fail
                  go_meet
                  exact FF
                · subst hm
                  obtain rfl := FN2.out.m0 (by decide)
                  have hbk := FN2.out.bk_
                  rw [if_pos rfl] at hbk
                  subst hbk
                  have cc := FN2.out.cc
                  rw [if_neg (by decide)] at cc
                  have cq := FN2.out.cq
                  clear HRI
                  go_wp2_with fail
                  go_meet
                  exact FN2
              case rest => as_aux_lemma =>
                have FN : Hid (Fin6 w wc gq gt g gN (gx + 1) rq dig nn ns n lp rp M m bk pv rr) := hcut
                clear FN2 hcut
                have c22 := FN.out.c22
                have c24 := FN.out.c24
                go_upto_block 9 with fail
                clear c22 c24
                go_wp2_with fail
                go_loopg [50] n (fun k s wr => ∃ j : Nat, j ≤ n ∧ k = n - j ∧ s = .int .i64 j ∧ Hid (Fin6 w wr gq gt g gN (gx + 1) rq dig nn ns n lp rp M m bk pv rr))
                case atStart => exact ⟨0, Nat.zero_le _, rfl, rfl, FN⟩
                case round =>
                  clear FN wc
                  obtain ⟨j, hj, rfl, rfl, FN⟩ := hrel
                  by_cases hlt : j < n
                  · have hlt' : (j : Int) < (n : Int) := by omega
                    have h0j : (0 : Int) ≤ (j : Int) := by omega
                    have lL := FN.out.rL.cell hlt
                    obtain ⟨h1, hh1⟩ : ∃ h1, (decide (rr = some j) && decide (m = 1)) = h1 := ⟨_, rfl⟩
                    obtain ⟨h2, hh2⟩ : ∃ h2, (decide (rr = some j) && decide (m = 2)) = h2 := ⟨_, rfl⟩
                    have HL : Hid (∀ wx, Below wr.heap.size wr wx → wx.rangeAt (lp j) 0 (M.lnkF rp h1 h2 nn ns rq j) ∧ lp j < wx.heap.size) := fun wx hf => by have := (FN.out.below hf).lk j hlt; rwa [hh1, hh2] at this
                    have HH1 : Hid _ := hh1
                    have HH2 : Hid _ := hh2
                    clear hh1 hh2
                    go_upto_region 88 with fail
                    have LP : ∀ wx, Below wr.heap.size wr wx → (Instr.loadAt 59 (.pointer (some ⟨g + 3, j * 5, none⟩))).run Yba.prog wx = .ok (.agg (pendV (M.A j) 0 0 (rp j)).toArray) wx := fun wx hb => load_many (FN.out.rP.at_ j hlt) hb FN.out.rP.lt Yba.underlying59 rfl (info59l _ _ _ _)
                    have LB : ∀ wx, Below wr.heap.size wr wx → (Instr.loadAt 59 (.pointer (some ⟨g + 4, j * 5, none⟩))).run Yba.prog wx = .ok (.agg (pendV (M.B j) 0 0 (rp j)).toArray) wx := fun wx hb => load_many (FN.out.rB.at_ j hlt) hb FN.out.rB.lt Yba.underlying59 rfl (info59l _ _ _ _)
                    have LQ : Hid (∀ wx, Below wr.heap.size wr wx → (Instr.loadAt 26 (.pointer (some ⟨gq, 0, none⟩))).run Yba.prog wx = .ok (.int .u64 rq) wx) := fun wx hb => load26c (FN.out.below hb).cq
                    have LN : Hid (∀ wx, Below wr.heap.size wr wx → (Instr.loadAt 29 (.pointer (some ⟨gN, 0, none⟩))).run Yba.prog wx = .ok (.agg #[.int .u64 nn, .int .i64 ns, .pointer none]) wx) := fun wx hb => load_many (range_of_block FN.out.cN 0 _ (fun k v hv => by simpa using hv)) hb (Array.getElem?_eq_some_iff.1 FN.out.cN).1 Yba.underlying29 rfl (info29l _ _)
                    have LR : Hid (∀ wx, Below wr.heap.size wr wx → (Instr.loadAt 50 (.pointer (some ⟨g + 2, j, none⟩))).run Yba.prog wx = .ok (.slice (some ⟨rp j, 0, none⟩) 1 1) wx) := fun wx hb => load50c ((FN.out.below hb).rR.cell hlt)
                    have HS0 : Below wr.heap.size wr wr.drew := ⟨rfl, rfl, rfl, Nat.le_refl _, fun _ _ => rfl⟩
                    clear lL
                    go_cut [52, 53] from 353 to 360 (fun s t wx => ∃ g1 g2, s = .pointer (some ⟨g1, 0, none⟩) ∧ t = .pointer (some ⟨g2, 0, none⟩) ∧ g1 ≠ g2 ∧ wx.rangeAt g1 0 (pendV (M.A j) 0 0 (rp j)) ∧ wx.there g1 0 5 ∧ wx.rangeAt g2 0 (pendV (M.B j) 0 0 (rp j)) ∧ wx.there g2 0 5 ∧ wr.heap.size ≤ g1 ∧ wr.heap.size ≤ g2 ∧ Below wr.heap.size wr wx)
                    case first => as_aux_lemma =>
                      refine wp_region_held_drew (S := fun wx => Below wr.heap.size wr wx) (by kernel_rfl) HS0 (fun hS => ?_)
                      refine takeH 0 (some 353) (.slice (some ⟨g + 3, 0, none⟩) n n) rfl rfl (by kernel_rfl) (by kernel_rfl) (by kernel_rfl) (fun _ _ _ h => h) (yields_move (by rfl) (.tmp 26) rfl _ (by rfl)) hS ?_
                      go_frame
                      refine takeH 1 (some 354) (.int .i64 (j : Int)) rfl rfl (by kernel_rfl) (by kernel_rfl) (by kernel_rfl) (fun _ _ _ h => h) (yields_move (by rfl) (.tmp 50) rfl _ (by rfl)) hS ?_
                      go_frame
                      refine takeH 2 (some 355) (.pointer (some ⟨g + 3, j * 5, none⟩)) rfl rfl (by kernel_rfl) (by kernel_rfl) (by kernel_rfl) (fun _ _ _ h => h) (.inl ⟨by rfl, fun w _ => by go_simp⟩) hS ?_
                      go_frame
                      refine takeH 3 (some 356) (.agg (pendV (M.A j) 0 0 (rp j)).toArray) rfl rfl (by kernel_rfl) (by kernel_rfl) (by kernel_rfl) (fun _ _ _ h => h) (yields_load (by rfl) 59 (.tmp 355) rfl (.pointer (some ⟨g + 3, j * 5, none⟩)) _ (by rfl) LP) hS ?_
                      go_frame
                      refine takeH 4 (some 357) (.slice (some ⟨g + 4, 0, none⟩) n n) rfl rfl (by kernel_rfl) (by kernel_rfl) (by kernel_rfl) (fun _ _ _ h => h) (yields_move (by rfl) (.tmp 27) rfl _ (by rfl)) hS ?_
                      go_frame
                      refine takeH 5 (some 358) (.int .i64 (j : Int)) rfl rfl (by kernel_rfl) (by kernel_rfl) (by kernel_rfl) (fun _ _ _ h => h) (yields_move (by rfl) (.tmp 50) rfl _ (by rfl)) hS ?_
                      go_frame
                      refine takeH 6 (some 359) (.pointer (some ⟨g + 4, j * 5, none⟩)) rfl rfl (by kernel_rfl) (by kernel_rfl) (by kernel_rfl) (fun _ _ _ h => h) (.inl ⟨by rfl, fun w _ => by go_simp⟩) hS ?_
                      go_frame
                      refine takeH 7 (some 360) (.agg (pendV (M.B j) 0 0 (rp j)).toArray) rfl rfl (by kernel_rfl) (by kernel_rfl) (by kernel_rfl) (fun _ _ _ h => h) (yields_load (by rfl) 59 (.tmp 359) rfl (.pointer (some ⟨g + 4, j * 5, none⟩)) _ (by rfl) LB) hS ?_
                      go_frame
                      refine wpAnyH_ready (rs := [8, 9]) (by kernel_rfl) (by simp) ?_
                      have hSa : Below wr.heap.size wr (wr.drew.alloc (.cells pendZ 59)) := hS.alloc hS.size _
                      have hSb : Below wr.heap.size wr ((wr.drew.alloc (.cells pendZ 59)).alloc (.cells pendZ 59)) := hSa.alloc hSa.size _
                      have th1 : ((wr.drew.alloc (.cells pendZ 59)).alloc (.cells pendZ 59)).there wr.drew.heap.size 0 5 := there_new rfl ((Below.refl _ _).alloc (Nat.le_refl _) _)
                      have th2 : ((wr.drew.alloc (.cells pendZ 59)).alloc (.cells pendZ 59)).there (wr.drew.alloc (.cells pendZ 59)).heap.size 0 5 := there_new rfl (Below.refl _ _)
                      have hne : wr.drew.heap.size ≠ (wr.drew.alloc (.cells pendZ 59)).heap.size := by rw [al_size]; omega
                      have hge : wr.heap.size ≤ (wr.drew.alloc (.cells pendZ 59)).heap.size := hSa.size
                      refine readyH_value 8 (some 52) (.pointer (some ⟨wr.drew.heap.size, 0, none⟩)) (wr.drew.alloc (.cells pendZ 59)) rfl rfl (by rfl) (exec_alloc rfl (alloc59 _)) ⟨hSa, ?_⟩ ?_
                      · go_frame
                        refine wpAnyH_ready (rs := [9]) (by kernel_rfl) (by simp) ?_
                        refine readyH_value 9 (some 53) (.pointer (some ⟨(wr.drew.alloc (.cells pendZ 59)).heap.size, 0, none⟩)) ((wr.drew.alloc (.cells pendZ 59)).alloc (.cells pendZ 59)) rfl rfl (by rfl) (exec_alloc rfl (alloc59 _)) ⟨hSb, ?_⟩ AllReadyH.nil
                        go_frame
                        refine wpAnyH_ready (rs := [10]) (by kernel_rfl) (by simp) ?_
                        refine readyH_store 10 none rfl rfl (by rfl) 59 (.tmp 52) (.tmp 356) rfl wr.drew.heap.size 0 (pendV (M.A j) 0 0 (rp j)).toArray (by rfl) (by rfl) th1 (info59 _ _ _ _) (pendV_one _ _ _ _) ⟨below_setCells hSb (Nat.le_refl _) (Nat.le_refl _) _ _, ?_⟩ AllReadyH.nil
                        go_frame
                        refine wpAnyH_ready (rs := [11]) (by kernel_rfl) (by simp) ?_
                        refine readyH_store 11 none rfl rfl (by rfl) 59 (.tmp 53) (.tmp 360) rfl (wr.drew.alloc (.cells pendZ 59)).heap.size 0 (pendV (M.B j) 0 0 (rp j)).toArray (by rfl) (by rfl) (World.there_setCells th2 _ _ _) (info59 _ _ _ _) (pendV_one _ _ _ _) ⟨below_setCells (below_setCells hSb (Nat.le_refl _) (Nat.le_refl _) _ _) (Nat.le_refl _) hge _ _, ?_⟩ AllReadyH.nil
                        refine wpAnyH_done (by kernel_rfl) ?_ _
                        go_frame
                        have ST := st2 (a := pendV (M.A j) 0 0 (rp j)) (b := pendV (M.B j) 0 0 (rp j)) th1 th2 hne rfl rfl
                        have SB := below_setCells (below_setCells hSb (Nat.le_refl _) (Nat.le_refl _) 0 (pendV (M.A j) 0 0 (rp j))) (Nat.le_refl _) hge 0 (pendV (M.B j) 0 0 (rp j))
                        clear LP LB
                        go_wp2_with fail
                        go_meet
                        exact ⟨wr.drew.heap.size, (wr.drew.alloc (.cells pendZ 59)).heap.size, rfl, rfl, hne, ST.1, ST.2.1, ST.2.2.1, ST.2.2.2, (Nat.le_refl _), hge, SB⟩
                      refine readyH_value 9 (some 53) (.pointer (some ⟨wr.drew.heap.size, 0, none⟩)) (wr.drew.alloc (.cells pendZ 59)) rfl rfl (by rfl) (exec_alloc rfl (alloc59 _)) ⟨hSa, ?_⟩ ?_
                      · go_frame
                        refine wpAnyH_ready (rs := [8]) (by kernel_rfl) (by simp) ?_
                        refine readyH_value 8 (some 52) (.pointer (some ⟨(wr.drew.alloc (.cells pendZ 59)).heap.size, 0, none⟩)) ((wr.drew.alloc (.cells pendZ 59)).alloc (.cells pendZ 59)) rfl rfl (by rfl) (exec_alloc rfl (alloc59 _)) ⟨hSb, ?_⟩ AllReadyH.nil
                        go_frame
                        refine wpAnyH_ready (rs := [10]) (by kernel_rfl) (by simp) ?_
                        refine readyH_store 10 none rfl rfl (by rfl) 59 (.tmp 52) (.tmp 356) rfl (wr.drew.alloc (.cells pendZ 59)).heap.size 0 (pendV (M.A j) 0 0 (rp j)).toArray (by rfl) (by rfl) th2 (info59 _ _ _ _) (pendV_one _ _ _ _) ⟨below_setCells hSb (Nat.le_refl _) hge _ _, ?_⟩ AllReadyH.nil
                        go_frame
                        refine wpAnyH_ready (rs := [11]) (by kernel_rfl) (by simp) ?_
                        refine readyH_store 11 none rfl rfl (by rfl) 59 (.tmp 53) (.tmp 360) rfl wr.drew.heap.size 0 (pendV (M.B j) 0 0 (rp j)).toArray (by rfl) (by rfl) (World.there_setCells th1 _ _ _) (info59 _ _ _ _) (pendV_one _ _ _ _) ⟨below_setCells (below_setCells hSb (Nat.le_refl _) hge _ _) (Nat.le_refl _) (Nat.le_refl _) _ _, ?_⟩ AllReadyH.nil
                        refine wpAnyH_done (by kernel_rfl) ?_ _
                        go_frame
                        have ST := st2 (a := pendV (M.A j) 0 0 (rp j)) (b := pendV (M.B j) 0 0 (rp j)) th2 th1 hne.symm rfl rfl
                        have SB := below_setCells (below_setCells hSb (Nat.le_refl _) hge 0 (pendV (M.A j) 0 0 (rp j))) (Nat.le_refl _) (Nat.le_refl _) 0 (pendV (M.B j) 0 0 (rp j))
                        clear LP LB
                        go_wp2_with fail
                        go_meet
                        exact ⟨(wr.drew.alloc (.cells pendZ 59)).heap.size, wr.drew.heap.size, rfl, rfl, hne.symm, ST.1, ST.2.1, ST.2.2.1, ST.2.2.2, hge, (Nat.le_refl _), SB⟩
                      exact AllReadyH.nil
                    case rest => as_aux_lemma =>
                      obtain ⟨g1, g2, rfl, rfl, n12, r1, t1, r2, t2, e1, e2, hbc⟩ := hcut
                      clear LP LB HS0
                      go_upto_region 90 with (refine wpList_build (by rfl) 29 #[] (by rfl) #[] (by rfl) (.agg #[.int .u64 0, .int .i64 0, .pointer none]) (build29C _) ?_)
                      try go_frame
                      have bA : Below wc.heap.size wc (wc.alloc (.cells #[.int .u64 0, .int .i64 0, .pointer none] 29)) := (Below.refl _ _).alloc (Nat.le_refl _) _
                      have nb := al_new wc (.cells #[.int .u64 0, .int .i64 0, .pointer none] 29) _ rfl
                      have WT : Hid (Wt (wc.alloc (.cells #[.int .u64 0, .int .i64 0, .pointer none] 29)) g1 g2 wc.heap.size (pendV (M.A j) 0 0 (rp j)) (pendV (M.B j) 0 0 (rp j)) [.int .u64 0, .int .i64 0, .pointer none]) :=
                        ⟨rangeAt_below r1 bA (there_lt t1), there_below t1 bA, rangeAt_below r2 bA (there_lt t2), there_below t2 bA, range_of_block nb 0 _ (fun k v hv => by simpa using hv), there_new rfl (Below.refl _ _), n12, by have := there_lt t1; omega, by have := there_lt t2; omega⟩
                      have HB : Hid (Below wr.heap.size wr (wc.alloc (.cells #[.int .u64 0, .int .i64 0, .pointer none] 29))) := below_more hbc (Nat.le_refl _) bA
                      have HE : Hid (wr.heap.size ≤ g1 ∧ wr.heap.size ≤ g2 ∧ wr.heap.size ≤ wc.heap.size) := ⟨e1, e2, hbc.size⟩
                      generalize hg3 : wc.heap.size = g3 at WT HE ⊢
                      generalize (wc.alloc (.cells #[.int .u64 0, .int .i64 0, .pointer none] 29)) = wd at WT HB ⊢
                      clear bA nb r1 r2 t1 t2 n12 hg3 e1 e2 hbc
                      clear wc
                      go_cut [368] from 362 to 367 (fun s wx => s = .bool h1 ∧ Hid (Below wr.heap.size wr wx) ∧ Hid (Wt wx g1 g2 g3 (pendV (M.A j) 0 0 (rp j)) (pendV (M.B j) 0 0 (rp j)) [.int .u64 0, .int .i64 0, .pointer none]))
                      case first => as_aux_lemma =>
                        by_cases hr : rr = some j
                        · subst hr
                          rw [show ixv (some j) = (j : Int) from rfl]
                          by_cases hm : m = 1
                          · subst hm
                            go_wp2_with fail
                            go_meet
                            exact ⟨by rw [← HH1.out]; simp, HB, WT⟩
                          · have hmb : (m == 1) = false := by simp [hm]
                            go_wp2_with fail
                            go_meet
                            exact ⟨by rw [← HH1.out]; simp [hm], HB, WT⟩
                        · have hjx : ¬ (j : Int) = ixv rr := by
                            intro e
                            apply hr
                            cases rr with
                            | none => simp only [ixv] at e; omega
                            | some i => simp only [ixv] at e; rw [show i = j by omega]
                          have hjb : ((j : Int) == ixv rr) = false := by simp [hjx]
                          have HRN : Hid (¬ rr = some j) := hr
                          clear hr
                          go_wp2_with fail
                          go_meet
                          exact ⟨by rw [← HH1.out]; simp [HRN.out], HB, WT⟩
                      case rest => as_aux_lemma =>
                        obtain ⟨rfl, HB1, WT1⟩ := hcut
                        clear HB WT wd
                        go_upto_if 368 with fail
                        go_cut [] from 369 to 376 (fun wx => Hid (Below wr.heap.size wr wx) ∧ Hid (Wt wx g1 g2 g3 (pendV (if h1 then rq else M.A j) (if h1 then nn else 0) (if h1 then ns else 0) (rp j)) (pendV (M.B j) 0 0 (rp j)) [.int .u64 (if h1 then nn else 0), .int .i64 (if h1 then ns else 0), .pointer none]))
                        case first => as_aux_lemma =>
                          cases h1 with
                          | false =>
                            go_wp2_with fail
                            go_meet
                            exact ⟨HB1, WT1⟩
                          | true =>
                            have TH : wc.drew.there g1 0 5 := WT1.out.tp
                            have HS0 : Below wr.heap.size wr wc.drew := ⟨HB1.out.os, HB1.out.tape, HB1.out.output, HB1.out.size, HB1.out.block⟩
                            go_upto_region 91 with fail
                            refine wp_region_held_drew (S := fun wx => Below wr.heap.size wr wx) (by kernel_rfl) HS0 (fun hS => ?_)
                            refine takeH 0 (some 369) (.int .u64 rq) rfl rfl (by kernel_rfl) (by kernel_rfl) (by kernel_rfl) (fun _ _ _ h => h) (yields_load (by rfl) 26 (.tmp 14) rfl (.pointer (some ⟨gq, 0, none⟩)) _ (by rfl) LQ.out) hS ?_
                            go_frame
                            refine takeH 1 (some 370) (.agg #[.int .u64 nn, .int .i64 ns, .pointer none]) rfl rfl (by kernel_rfl) (by kernel_rfl) (by kernel_rfl) (fun _ _ _ h => h) (yields_load (by rfl) 29 (.tmp 33) rfl (.pointer (some ⟨gN, 0, none⟩)) _ (by rfl) LN.out) hS ?_
                            go_frame
                            refine takeH 2 (some 371) (.slice (some ⟨g + 2, 0, none⟩) n n) rfl rfl (by kernel_rfl) (by kernel_rfl) (by kernel_rfl) (fun _ _ _ h => h) (yields_move (by rfl) (.tmp 25) rfl _ (by rfl)) hS ?_
                            go_frame
                            refine takeH 3 (some 372) (.int .i64 (j : Int)) rfl rfl (by kernel_rfl) (by kernel_rfl) (by kernel_rfl) (fun _ _ _ h => h) (yields_move (by rfl) (.tmp 50) rfl _ (by rfl)) hS ?_
                            go_frame
                            refine takeH 4 (some 373) (.pointer (some ⟨g + 2, j, none⟩)) rfl rfl (by kernel_rfl) (by kernel_rfl) (by kernel_rfl) (fun _ _ _ h => h) (.inl ⟨by rfl, fun w _ => by go_simp⟩) hS ?_
                            go_frame
                            refine takeH 5 (some 374) (.slice (some ⟨rp j, 0, none⟩) 1 1) rfl rfl (by kernel_rfl) (by kernel_rfl) (by kernel_rfl) (fun _ _ _ h => h) (yields_load (by rfl) 50 (.tmp 373) rfl (.pointer (some ⟨g + 2, j, none⟩)) _ (by rfl) LR.out) hS ?_
                            go_frame
                            refine takeH 6 (some 375) (.agg (pendV rq nn ns (rp j)).toArray) rfl rfl (by kernel_rfl) (by kernel_rfl) (by kernel_rfl) (fun _ _ _ h => h) (yields_build (by rfl) 59 #[(0, .tmp 369), (1, .tmp 370), (2, .tmp 374)] rfl #[(0, .int .u64 rq), (1, .agg #[.int .u64 nn, .int .i64 ns, .pointer none]), (2, .slice (some ⟨rp j, 0, none⟩) 1 1)] (by rfl) _ (build59D _ _ _ _)) hS ?_
                            go_frame
                            refine wpAnyH_ready (rs := [7]) (by kernel_rfl) (by simp) ?_
                            refine readyH_store 7 none rfl rfl (by rfl) 59 (.tmp 52) (.tmp 375) rfl g1 0 (pendV rq nn ns (rp j)).toArray (by rfl) (by rfl) TH (info59 _ _ _ _) (pendV_one _ _ _ _) ⟨below_setCells hS (Nat.le_refl _) HE.out.1 _ _, ?_⟩ AllReadyH.nil
                            refine wpAnyH_done (by kernel_rfl) ?_ _
                            go_frame
                            have HB3 : Hid (Below wr.heap.size wr (wc.drew.setCells g1 0 (pendV rq nn ns (rp j)))) := below_setCells HS0 (Nat.le_refl _) HE.out.1 _ _
                            clear HS0 hS TH
                            have WT3 : Hid _ := (WT1.out.below (w' := wc.drew) ⟨rfl, rfl, rfl, Nat.le_refl _, fun _ _ => rfl⟩).setP (P' := pendV rq nn ns (rp j)) rfl
                            change (Exit.then _ _) _ _ (wc.drew.setCells g1 0 (pendV rq nn ns (rp j)))
                            generalize (wc.drew.setCells g1 0 (pendV rq nn ns (rp j))) = we at WT3 HB3 ⊢
                            have p2 := (FN.out.below HB3.out).cN
                            have TH := WT3.out.t3
                            have WT4 : Hid _ := WT3.out.setS (S' := [.int .u64 nn, .int .i64 ns, .pointer none]) rfl
                            have HB4 : Hid (Below wr.heap.size wr (we.setCells g3 0 [.int .u64 nn, .int .i64 ns, .pointer none])) := below_setCells HB3.out (Nat.le_refl _) HE.out.2.2 _ _
                            clear WT3 HB3
                            go_wp2_with (first
                              | (refine wpList_load_row (by rfl) 29 (.tmp 33) (by rfl) gN (by rfl) 29 #[.int .u64 nn, .int .i64 ns, .pointer none] (0, 0) _ p2 Yba.underlying29 (by rfl) (by kernel_rfl) ?_)
                              | (refine wpList_store_mid (by rfl) 29 (.tmp 54) (.tmp 376) (by rfl) g3 0 #[.int .u64 nn, .int .i64 ns, .pointer none] (by rfl) (by rfl) TH (info29 _ _) (tim_one _ _) ?_))
                            go_meet
                            exact ⟨HB4, WT4⟩
                        case rest => as_aux_lemma =>
                          obtain ⟨HB, WT⟩ := hcut
                          clear HB1 WT1
                          go_upto_region 93 with fail
                          go_cut [383] from 377 to 382 (fun s wx => s = .bool h2 ∧ Hid (Below wr.heap.size wr wx) ∧ Hid (Wt wx g1 g2 g3 (pendV (if h1 then rq else M.A j) (if h1 then nn else 0) (if h1 then ns else 0) (rp j)) (pendV (M.B j) 0 0 (rp j)) [.int .u64 (if h1 then nn else 0), .int .i64 (if h1 then ns else 0), .pointer none]))
                          case first => as_aux_lemma =>
                            by_cases hr : rr = some j
                            · subst hr
                              rw [show ixv (some j) = (j : Int) from rfl]
                              by_cases hm : m = 2
                              · subst hm
                                go_wp2_with fail
                                go_meet
                                exact ⟨by rw [← HH2.out]; simp, HB, WT⟩
                              · have hmb : (m == 2) = false := by simp [hm]
                                go_wp2_with fail
                                go_meet
                                exact ⟨by rw [← HH2.out]; simp [hm], HB, WT⟩
                            · have hjx : ¬ (j : Int) = ixv rr := by
                                intro e
                                apply hr
                                cases rr with
                                | none => simp only [ixv] at e; omega
                                | some i => simp only [ixv] at e; rw [show i = j by omega]
                              have hjb : ((j : Int) == ixv rr) = false := by simp [hjx]
                              have HRN : Hid (¬ rr = some j) := hr
                              clear hr
                              go_wp2_with fail
                              go_meet
                              exact ⟨by rw [← HH2.out]; simp [HRN.out], HB, WT⟩
                          case rest => as_aux_lemma =>
                            obtain ⟨rfl, HB1, WT1⟩ := hcut
                            clear HB WT
                            go_upto_if 383 with fail
                            go_cut [] from 384 to 390 (fun wx => Hid (Below wr.heap.size wr wx) ∧ Hid (Wt wx g1 g2 g3 (pendV (if h1 then rq else M.A j) (if h1 then nn else 0) (if h1 then ns else 0) (rp j)) (pendV (if h2 then rq else M.B j) (if h2 then nn else 0) (if h2 then ns else 0) (rp j)) [.int .u64 (if h1 then nn else 0), .int .i64 (if h1 then ns else 0), .pointer none]))
                            case first => as_aux_lemma =>
                              cases h2 with
                              | false =>
                                go_wp2_with fail
                                go_meet
                                exact ⟨HB1, WT1⟩
                              | true =>
                                have TH : wc.drew.there g2 0 5 := WT1.out.tb
                                have HS0 : Below wr.heap.size wr wc.drew := ⟨HB1.out.os, HB1.out.tape, HB1.out.output, HB1.out.size, HB1.out.block⟩
                                go_upto_region 94 with fail
                                refine wp_region_held_drew (S := fun wx => Below wr.heap.size wr wx) (by kernel_rfl) HS0 (fun hS => ?_)
                                refine takeH 0 (some 384) (.int .u64 rq) rfl rfl (by kernel_rfl) (by kernel_rfl) (by kernel_rfl) (fun _ _ _ h => h) (yields_load (by rfl) 26 (.tmp 14) rfl (.pointer (some ⟨gq, 0, none⟩)) _ (by rfl) LQ.out) hS ?_
                                go_frame
                                refine takeH 1 (some 385) (.agg #[.int .u64 nn, .int .i64 ns, .pointer none]) rfl rfl (by kernel_rfl) (by kernel_rfl) (by kernel_rfl) (fun _ _ _ h => h) (yields_load (by rfl) 29 (.tmp 33) rfl (.pointer (some ⟨gN, 0, none⟩)) _ (by rfl) LN.out) hS ?_
                                go_frame
                                refine takeH 2 (some 386) (.slice (some ⟨g + 2, 0, none⟩) n n) rfl rfl (by kernel_rfl) (by kernel_rfl) (by kernel_rfl) (fun _ _ _ h => h) (yields_move (by rfl) (.tmp 25) rfl _ (by rfl)) hS ?_
                                go_frame
                                refine takeH 3 (some 387) (.int .i64 (j : Int)) rfl rfl (by kernel_rfl) (by kernel_rfl) (by kernel_rfl) (fun _ _ _ h => h) (yields_move (by rfl) (.tmp 50) rfl _ (by rfl)) hS ?_
                                go_frame
                                refine takeH 4 (some 388) (.pointer (some ⟨g + 2, j, none⟩)) rfl rfl (by kernel_rfl) (by kernel_rfl) (by kernel_rfl) (fun _ _ _ h => h) (.inl ⟨by rfl, fun w _ => by go_simp⟩) hS ?_
                                go_frame
                                refine takeH 5 (some 389) (.slice (some ⟨rp j, 0, none⟩) 1 1) rfl rfl (by kernel_rfl) (by kernel_rfl) (by kernel_rfl) (fun _ _ _ h => h) (yields_load (by rfl) 50 (.tmp 388) rfl (.pointer (some ⟨g + 2, j, none⟩)) _ (by rfl) LR.out) hS ?_
                                go_frame
                                refine takeH 6 (some 390) (.agg (pendV rq nn ns (rp j)).toArray) rfl rfl (by kernel_rfl) (by kernel_rfl) (by kernel_rfl) (fun _ _ _ h => h) (yields_build (by rfl) 59 #[(0, .tmp 384), (1, .tmp 385), (2, .tmp 389)] rfl #[(0, .int .u64 rq), (1, .agg #[.int .u64 nn, .int .i64 ns, .pointer none]), (2, .slice (some ⟨rp j, 0, none⟩) 1 1)] (by rfl) _ (build59D _ _ _ _)) hS ?_
                                go_frame
                                refine wpAnyH_ready (rs := [7]) (by kernel_rfl) (by simp) ?_
                                refine readyH_store 7 none rfl rfl (by rfl) 59 (.tmp 53) (.tmp 390) rfl g2 0 (pendV rq nn ns (rp j)).toArray (by rfl) (by rfl) TH (info59 _ _ _ _) (pendV_one _ _ _ _) ⟨below_setCells hS (Nat.le_refl _) HE.out.2.1 _ _, ?_⟩ AllReadyH.nil
                                refine wpAnyH_done (by kernel_rfl) ?_ _
                                go_frame
                                have HB3 : Hid (Below wr.heap.size wr (wc.drew.setCells g2 0 (pendV rq nn ns (rp j)))) := below_setCells HS0 (Nat.le_refl _) HE.out.2.1 _ _
                                clear HS0 hS TH
                                have WT3 : Hid _ := (WT1.out.below (w' := wc.drew) ⟨rfl, rfl, rfl, Nat.le_refl _, fun _ _ => rfl⟩).setB (B' := pendV rq nn ns (rp j)) rfl
                                go_wp2_with fail
                                go_meet
                                exact ⟨HB3, WT3⟩
                            case rest => as_aux_lemma =>
                              obtain ⟨HB, WT⟩ := hcut
                              clear HB1 WT1 LQ LN LR HE
                              obtain ⟨hl, hll⟩ := HL.out _ HB.out
                              unfold Md.lnkF at hl
                              have FN1 : Hid (Fin6 w wc gq gt g gN (gx + 1) rq dig nn ns n lp rp M m bk pv rr) := FN.out.below HB.out
                              clear HL HH1 HH2 HB FN
                              generalize (if h1 = true then nn else 0) = sn at hl WT
                              generalize (if h1 = true then ns else 0) = ss at hl WT
                              generalize (if h1 = true then rq else M.A j) = p0 at hl WT
                              generalize (if h2 = true then nn else 0) = q1 at hl WT
                              generalize (if h2 = true then ns else 0) = q2 at hl WT
                              generalize (if h2 = true then rq else M.B j) = q0 at hl WT
                              obtain ⟨k1, k2, k3, k4, k5⟩ := lnkC_parts hl
                              clear hl
                              have rR := FN1.out.rR.cell hlt
                              obtain ⟨b, o, hix, hb, hra⟩ := h0.get (cap := cap0) hlt
                              have hr5 : wc.cell? ⟨b, o + j * 6 + 5, none⟩ = some (.int .u64 (M.L j)) := (FN1.out.bel.cell (p := ⟨b, o + j * 6 + 5, none⟩) (show b < gq by omega)).trans (hra 5 _ rfl)
                              have W := WT.out
                              have LDa : ∀ wx, (∃ p : Regrown, wx = grow (redrawn wc p.d) p.os) → (Instr.loadAt 59 (.pointer (some ⟨lp j, 30, none⟩))).run Yba.prog wx = .ok (.agg (pendV p0 sn ss (rp j)).toArray) wx := by
                                rintro _ ⟨q, rfl⟩; exact load_many k1 (below_regrown wc q.d q.os) hll Yba.underlying59 rfl (info59l _ _ _ _)
                              have LDb : ∀ wx, (∃ p : Regrown, wx = grow (redrawn wc p.d) p.os) → (Instr.loadAt 59 (.pointer (some ⟨g1, 0, none⟩))).run Yba.prog wx = .ok (.agg (pendV p0 sn ss (rp j)).toArray) wx := by
                                rintro _ ⟨q, rfl⟩; exact load_many W.rp (below_regrown wc q.d q.os) (there_lt W.tp) Yba.underlying59 rfl (info59l _ _ _ _)
                              have LDc : ∀ wx, (∃ p : Regrown, wx = grow (redrawn wc p.d) p.os) → (Instr.loadAt 59 (.pointer (some ⟨lp j, 35, none⟩))).run Yba.prog wx = .ok (.agg (pendV q0 q1 q2 (rp j)).toArray) wx := by
                                rintro _ ⟨q, rfl⟩; exact load_many k2 (below_regrown wc q.d q.os) hll Yba.underlying59 rfl (info59l _ _ _ _)
                              have LDd : ∀ wx, (∃ p : Regrown, wx = grow (redrawn wc p.d) p.os) → (Instr.loadAt 59 (.pointer (some ⟨g2, 0, none⟩))).run Yba.prog wx = .ok (.agg (pendV q0 q1 q2 (rp j)).toArray) wx := by
                                rintro _ ⟨q, rfl⟩; exact load_many W.rb (below_regrown wc q.d q.os) (there_lt W.tb) Yba.underlying59 rfl (info59l _ _ _ _)
                              have LDe : ∀ wx, (∃ p : Regrown, wx = grow (redrawn wc p.d) p.os) → (Instr.loadAt 29 (.pointer (some ⟨lp j, 27, none⟩))).run Yba.prog wx = .ok (.agg #[.int .u64 sn, .int .i64 ss, .pointer none]) wx := by
                                rintro _ ⟨q, rfl⟩; exact load_many k3 (below_regrown wc q.d q.os) hll Yba.underlying29 rfl (info29l _ _)
                              have LDf : ∀ wx, (∃ p : Regrown, wx = grow (redrawn wc p.d) p.os) → (Instr.loadAt 29 (.pointer (some ⟨g3, 0, none⟩))).run Yba.prog wx = .ok (.agg #[.int .u64 sn, .int .i64 ss, .pointer none]) wx := by
                                rintro _ ⟨q, rfl⟩; exact load_many W.rs (below_regrown wc q.d q.os) (there_lt W.t3) Yba.underlying29 rfl (info29l _ _)
                              have C1 : ∀ d os, Calls Yba.prog 15 #[.agg (pendV p0 sn ss (rp j)).toArray, .agg (pendV p0 sn ss (rp j)).toArray] (grow (redrawn wc d) os) fun e w'' => e = .returned (.bool true) ∧ ∃ p : Regrown, w'' = grow (redrawn wc p.d) p.os := fun d os => Calls.regrown_of (pend_same p0 sn ss (rp j) (grow (redrawn wc d) os))
                              have C2 : ∀ d os, Calls Yba.prog 15 #[.agg (pendV q0 q1 q2 (rp j)).toArray, .agg (pendV q0 q1 q2 (rp j)).toArray] (grow (redrawn wc d) os) fun e w'' => e = .returned (.bool true) ∧ ∃ p : Regrown, w'' = grow (redrawn wc p.d) p.os := fun d os => Calls.regrown_of (pend_same q0 q1 q2 (rp j) (grow (redrawn wc d) os))
                              have E1 := neq29_same sn ss
                              have E2 := ptr87_neq ⟨rp j, 0, none⟩
                              have FE : ∀ d os, Hid (Fin6 w (grow (redrawn wc d) os) gq gt g gN (gx + 1) rq dig nn ns n lp rp M m bk pv rr) := fun d os => FN1.out.below (below_regrown wc d os)
                              have hh5 := cell_regrown hr5
                              have hh4 := cell_regrown k4
                              have hh3 := cell_regrown k5
                              have hh2 := cell_regrown rR
                              clear W WT k1 k2 k3 k4 k5 hra rR hr5 FN1
                              go_upto_region 95 with fail
                              refine wp_region_quiet_below (by kernel_rfl) (by kernel_rfl) ?_
                              repeat (first
                                | (go_big_quiet_want; refine quiet_load 59 (.tmp 393) (by rfl) (.pointer (some ⟨lp j, 30, none⟩)) (.agg (pendV p0 sn ss (rp j)).toArray) (by rfl) LDa ?_; go_big_quiet_on; go_frame)
                                | (go_big_quiet_want; refine quiet_load 59 (.tmp 52) (by rfl) (.pointer (some ⟨g1, 0, none⟩)) (.agg (pendV p0 sn ss (rp j)).toArray) (by rfl) LDb ?_; go_big_quiet_on; go_frame)
                                | (go_big_quiet_want; refine quiet_load 59 (.tmp 401) (by rfl) (.pointer (some ⟨lp j, 35, none⟩)) (.agg (pendV q0 q1 q2 (rp j)).toArray) (by rfl) LDc ?_; go_big_quiet_on; go_frame)
                                | (go_big_quiet_want; refine quiet_load 59 (.tmp 53) (by rfl) (.pointer (some ⟨g2, 0, none⟩)) (.agg (pendV q0 q1 q2 (rp j)).toArray) (by rfl) LDd ?_; go_big_quiet_on; go_frame)
                                | (go_big_quiet_want; refine quiet_load 29 (.tmp 410) (by rfl) (.pointer (some ⟨lp j, 27, none⟩)) (.agg #[.int .u64 sn, .int .i64 ss, .pointer none]) (by rfl) LDe ?_; go_big_quiet_on; go_frame)
                                | (go_big_quiet_want; refine quiet_load 29 (.tmp 54) (by rfl) (.pointer (some ⟨g3, 0, none⟩)) (.agg #[.int .u64 sn, .int .i64 ss, .pointer none]) (by rfl) LDf ?_; go_big_quiet_on; go_frame)
                                | go_big_quiet_step (first | with_reducible exact C1 _ _ | with_reducible exact C2 _ _))
                              refine wpQuiet_nil ?_
                              rintro _ ⟨⟨dq, oq⟩, rfl⟩
                              clear C1 C2 LDa LDb LDc LDd LDe LDf
                              replace hh5 := hh5 dq oq
                              replace hh4 := hh4 dq oq
                              replace hh3 := hh3 dq oq
                              replace hh2 := hh2 dq oq
                              have FN := FE dq oq
                              clear FE
                              generalize grow (redrawn wc dq) oq = wd at hh2 hh3 hh4 hh5 FN ⊢
                              have FE : ∀ k, Hid (Fin6 w (wd.drewN k) gq gt g gN (gx + 1) rq dig nn ns n lp rp M m bk pv rr) := fun k => FN.out.below ⟨rfl, rfl, rfl, Nat.le_refl _, fun _ _ => rfl⟩
                              generalize M.L j = li at hh4 hh5
                              go_upto_region 97 with fail
                              go_quiet (fail)
                              go_wp2_with fail
                              go_roundg (n - (j + 1))
                              case measure => omega
                              case rel => exact ⟨j + 1, by omega, rfl, by go_num, FE _⟩
                  · have hjj : j = n := by omega
                    subst hjj
                    have hlt' : ¬ (j : Int) < (j : Int) := by omega
                    go_wp2_with fail
                    go_ret
                    exact ⟨rfl, FN.out.bel⟩
end Go.Proofs.Ybulkdwxc

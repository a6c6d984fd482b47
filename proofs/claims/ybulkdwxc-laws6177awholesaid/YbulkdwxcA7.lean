import Derived.Test.YbulkdwxcA6
namespace Go.Proofs.Ybulkdwxc
open Go.RowKit Go.Maps Go.Sort

set_option maxRecDepth 100000 in
set_option maxHeartbeats 4000000 in
theorem law_small (a0 : Option Addr) (len0 cap0 : Nat) (ids : List (List Int)) (P : List Int) (md h c nw per : Int) (w : World) (w0 : IsIds w a0 len0 ids) (wP : Id16 P) (hmd : 0 ≤ md ∧ md ≤ 255)
    (hh : -2147483648 ≤ h ∧ h ≤ 2147483647) (hc : -2147483648 ≤ c ∧ c ≤ 2147483647) (hnw : -2147483648 ≤ nw ∧ nw ≤ 2147483647) (hper : -2147483648 ≤ per ∧ per ≤ 2147483647) (hle : len0 ≤ 65536) :
    Calls Yba.prog 3 #[.slice a0 len0 cap0, .agg (idv P), .int .u8 md, .int .i32 h, .int .i32 c, .int .i32 nw, .int .i32 per] w fun e w' => e = .returned (.bool true) ∧ Below w.heap.size w w' := by
  have hP := wP.1
  go_enter Yba.func3, Yba.ntmps3
  go_upto_region 3 with fail
  have b0 := (al_new w (.cells (idv P) 23) _ rfl)
  have z1 : ∀ o, ((w.alloc (.cells (idv P) 23)).alloc o).heap[w.heap.size]? = some (.cells (idv P) 23) := fun o => al_old _ _ _ _ b0
  go_upto_region 4 with (first
    | (refine wpList_load_row (by rfl) 23 (.tmp 8) (by rfl) w.heap.size (by rfl) 23 (idv P) (0, 0) _ b0 Yba.underlying23 (by rfl) (info23 hP) ?_)
    | (refine wpList_store_new (by rfl) 23 (.tmp 15) (.tmp 32) (by rfl) (w.alloc (.cells (idv P) 23)) #[.int .u8 0, .int .u8 0, .int .u8 0, .int .u8 0, .int .u8 0, .int .u8 0, .int .u8 0, .int .u8 0, .int .u8 0, .int .u8 0, .int .u8 0, .int .u8 0, .int .u8 0, .int .u8 0, .int .u8 0, .int .u8 0] (idv P) 23 (w.heap.size + 1) (al_size _ _) (by rfl) (by rfl) (by rfl) (by rw [idv_size wP]; rfl) (info23 hP) (idv_one P) ?_))
  go_frame
  clear b0 z1
  go_cut [40] (fun s wx => s = .bool (decide (0 < len0) && decide (md % 2 = 0)) ∧ wx = (w.alloc (.cells (idv P) 23)).alloc (.cells (idv P) 23))
  case first =>
    -- [[
    by_cases h0 : 0 < len0
    · have h0' : (0 : Int) < (len0 : Int) := by omega
      by_cases hm : md % 2 = 0
      · go_wp2_with fail
        go_meet
        exact ⟨by simp [h0, hm], rfl⟩
      · go_wp2_with fail
        go_meet
        exact ⟨by simp [h0, hm], rfl⟩
    · have h0' : ¬ (0 : Int) < (len0 : Int) := by omega
      go_wp2_with fail
      go_meet
      exact ⟨by simp [h0], rfl⟩
    -- ]]
  case rest =>
    obtain ⟨rfl, rfl⟩ := hcut
    go_upto_if 40 with fail
    go_cut [] (fun wx => ∃ J, Id16 J ∧ wx = (w.alloc (.cells (idv P) 23)).alloc (.cells (idv J) 23))
    case first =>
      -- [[
      by_cases h0 : 0 < len0 ∧ md % 2 = 0
      · rw [show (decide (0 < len0) && decide (md % 2 = 0)) = true by simp [h0]]
        obtain ⟨q, hq⟩ : ∃ q : Nat, q = (md / 2).toNat % len0 := ⟨_, rfl⟩
        have hql : q < len0 := by rw [hq]; exact Nat.mod_lt _ h0.1
        obtain ⟨b, o, hix, hb, hra, hJ⟩ := w0.at (cap := cap0) hql
        have hidx : (md / 2) % (len0 : Int) = (q : Int) := by rw [hq, Int.natCast_emod, Int.toNat_of_nonneg (by omega)]
        have hl0 : (len0 : Int) ≠ 0 := by omega
        clear hq
        generalize ids.getD q [] = J at *
        have hr2 := rangeAt_below hra (((Below.refl _ _).alloc (Nat.le_refl _) (.cells (idv P) 23)).alloc (by simp) (.cells (idv P) 23)) hb
        clear hra
        go_wp2_with (first
          | (refine wpList_load_mid (by rfl) 23 (.tmp 48) (by rfl) b (o + q * 16) (by rfl) (idv J).toList _ hr2 Yba.underlying23 (by rfl) (info23l hJ.1) ?_)
          | (refine wpList_store_new (by rfl) 23 (.tmp 15) (.tmp 49) (by rfl) (w.alloc (.cells (idv P) 23)) (idv P) (idv J) 23 (w.heap.size + 1) (al_size _ _) (by rfl) (by rfl) (by rfl) (by rw [idv_size wP, idv_size hJ]) (info23 hJ.1) (idv_one J) ?_))
        go_meet
        exact ⟨J, hJ, rfl⟩
      · rw [show (decide (0 < len0) && decide (md % 2 = 0)) = false by simpa using h0]
        go_wp2_with fail
        go_meet
        exact ⟨P, wP, rfl⟩
      -- ]]
    case rest =>
      obtain ⟨J, hJ, rfl⟩ := hcut
      have hB : Below w.heap.size w ((w.alloc (.cells (idv P) 23)).alloc (.cells (idv J) 23)) := ((Below.refl _ _).alloc (Nat.le_refl _) _).alloc (by simp) _
      have hj1 : ((w.alloc (.cells (idv P) 23)).alloc (.cells (idv J) 23)).heap[w.heap.size + 1]? = some (.cells (idv J) 23) := al_new _ _ _ (al_size _ _).symm
      have hz1 : ((w.alloc (.cells (idv P) 23)).alloc (.cells (idv J) 23)).heap.size = w.heap.size + 2 := by rw [al_size, al_size]
      generalize ((w.alloc (.cells (idv P) 23)).alloc (.cells (idv J) 23)) = wa at *
      have hlen := w0.1
      go_upto_if 52 with fail
      go_cut [16] (fun s wx => ∃ r n, s = .map r ∧ DeadIs wx r ids n ∧ Below w.heap.size w wx ∧ wx.heap[w.heap.size + 1]? = some (.cells (idv J) 23))
      case first =>
        -- [[
        by_cases h0 : 0 < len0
        · have h0' : (0 : Int) < (len0 : Int) := by omega
          rw [show decide (0 < len0) = true by simpa using h0]
          have hmm := @run_makeMap Yba.prog
          go_wp2_with fail
          clear hmm
          go_loopw [17] (fun i wx => ∃ k : Nat, k ≤ len0 ∧ i = .int .i64 k ∧ ∃ n, DeadIs wx (some (w.heap.size + 2)) (ids.take k) n ∧ Below w.heap.size w wx ∧ wx.heap[w.heap.size + 1]? = some (.cells (idv J) 23)) (fun i _ => len0 - (intOf i).toNat)
          case atStart => exact ⟨0, Nat.zero_le _, rfl, 0, by have := DeadIs.made wa; rw [hz1] at this; simpa using this, hB.alloc hB.size _, al_old _ _ _ _ hj1⟩
          case round =>
            obtain ⟨k, hk, rfl, n, hd, hbel, hj2⟩ := hrel
            by_cases hlt : k < len0
            · obtain ⟨b, o, hix, hb, hra, hI⟩ := w0.at (cap := cap0) hlt
              have hr2 := rangeAt_below hra hbel hb
              have htk := take_next (ids := ids) (k := k) (by omega)
              have HT : Hid _ := htk
              clear hra htk
              generalize ids.getD k [] = I at *
              go_wp2_with (first
                | (refine wpList_load_mid (by rfl) 23 (.tmp 63) (by rfl) b (o + k * 16) (by rfl) (idv I).toList _ hr2 Yba.underlying23 (by rfl) (info23l hI.1) ?_)
                | (at_mapUpdate; go_loud (refine wpList_dead_put wr (by rfl) (.tmp 60) (.tmp 64) (.tmp 65) (by rfl) (w.heap.size + 2) (ids.take k) n (by rfl) hd (by rw [List.length_take]; omega) I hI (by rfl) (by rfl) ?_); intro w' n' hd' hg'))
              go_roundw
              case rel => exact ⟨k + 1, by omega, by go_num, n', by rw [HT.out]; exact hd', below_grown hbel (Nat.le_refl _) hg' (by omega), by rw [hg'.block _ (by have := (Array.getElem?_eq_some_iff.1 hj2).1; exact this) (by simp), hj2]⟩
              case measure => simp [intOf]; omega
            · have hkk : k = len0 := by omega
              subst hkk
              rw [← hlen, List.take_length] at hd
              go_wp2_with fail
              go_meet
              exact ⟨_, n, rfl, hd, hbel, hj2⟩
        · have h0' : ¬ (0 : Int) < (len0 : Int) := by omega
          have e0 : ids = [] := by apply List.eq_nil_of_length_eq_zero; omega
          go_wp2_with fail
          go_meet
          exact ⟨none, 0, rfl, .inl ⟨rfl, e0, rfl⟩, hB, hj1⟩
        -- ]]
      case rest =>
        obtain ⟨r, n, rfl, hd, hbel, hj2⟩ := hcut
        have hl := hd.len 3
        have hnle := hd.le
        have hbc : w.heap.size + 1 < wc.heap.size := (Array.getElem?_eq_some_iff.1 hj2).1
        clear hB hj1 hz1 wa
        go_upto_region 15 with (first
          | (refine wpList_build (by rfl) 34 #[(0, .tmp 70)] (by rfl) #[(0, .int .i64 (per * 1000000))] (by rfl) (.agg (tim (per * 1000000))) (build34 _ _) ?_))
        have m1 := al_new wc (.cells (tim (per * 1000000)) 34) _ rfl
        have bw1 : Below wc.heap.size wc (wc.alloc (.cells (tim (per * 1000000)) 34)) := (Below.refl _ _).alloc (Nat.le_refl _) _
        have z1 := al_size wc (.cells (tim (per * 1000000)) 34)
        generalize hgm : wc.heap.size = gm at *
        generalize (wc.alloc (.cells (tim (per * 1000000)) 34)) = w1 at *
        have bb : Below w.heap.size w w1 := below_more hbel (Nat.le_refl _) (hgm ▸ bw1)
        replace hd := hd.below (hgm ▸ bw1)
        replace hj2 := kept (hgm ▸ bw1) hj2
        clear hl hbel bw1 hgm wc
        go_upto_region 16 with (first
          | (refine wpList_build (by rfl) 46 #[] (by rfl) #[] (by rfl) (.agg peer0) (build46 _) ?_)
          | (go_at_call 5; refine (table_any gm r _).mono ?_; rintro e w2 ⟨rfl, hb2⟩)
          | (refine wpList_store_new (by rfl) 53 (.tmp 20) (.tmp 76) (by rfl) w2 _ (tbl gm r) 53 w2.heap.size rfl (by rfl) (by rfl) (by rfl) (by rfl) info53 (tbl_one gm r) ?_))
        try go_frame
        have bA : Below w1.heap.size w1 (w2.alloc (.cells (tbl gm r) 53)) := hb2.alloc hb2.size _
        have t1 := al_new w2 (.cells (tbl gm r) 53) _ rfl
        generalize hgt : w2.heap.size = gt at *
        generalize (w2.alloc (.cells (tbl gm r) 53)) = w3 at *
        replace bb := below_more bb (Nat.le_refl _) bA
        replace hd := hd.below bA
        replace hj2 := kept bA hj2
        replace m1 := kept bA m1
        clear bA hb2 hgt z1 w2
        obtain ⟨hn, hs, AH, bh0, bh1, bh2, HH⟩ := aat_letters h hh
        go_upto_region 17 with (go_at_call 6; refine (AH _).mono ?_; rintro e w4 ⟨rfl, hb4⟩)
        clear AH
        have bA : Below w3.heap.size w3 (w4.alloc (.cells #[.int .u64 hn, .int .i64 hs, .pointer none] 29)) := hb4.alloc hb4.size _
        have p1 := al_new w4 (.cells #[.int .u64 hn, .int .i64 hs, .pointer none] 29) _ rfl
        generalize hg1 : w4.heap.size = g1 at *
        generalize (w4.alloc (.cells #[.int .u64 hn, .int .i64 hs, .pointer none] 29)) = w5 at *
        replace bb := below_more bb (Nat.le_refl _) bA
        replace hd := hd.below bA
        replace hj2 := kept bA hj2
        replace m1 := kept bA m1
        replace t1 := kept bA t1
        clear bA hb4 hg1 w4
        obtain ⟨cn, cs, AC, bc0, bc1, bc2, HC⟩ := aat_letters c hc
        go_upto_region 18 with (go_at_call 6; refine (AC _).mono ?_; rintro e w6 ⟨rfl, hb6⟩)
        clear AC
        have bA : Below w5.heap.size w5 (w6.alloc (.cells #[.int .u64 cn, .int .i64 cs, .pointer none] 29)) := hb6.alloc hb6.size _
        have p2 := al_new w6 (.cells #[.int .u64 cn, .int .i64 cs, .pointer none] 29) _ rfl
        generalize hg2 : w6.heap.size = g2 at *
        generalize (w6.alloc (.cells #[.int .u64 cn, .int .i64 cs, .pointer none] 29)) = w7 at *
        replace bb := below_more bb (Nat.le_refl _) bA
        replace hd := hd.below bA
        replace hj2 := kept bA hj2
        replace m1 := kept bA m1
        replace t1 := kept bA t1
        replace p1 := kept bA p1
        clear bA hb6 hg2 w6
        obtain ⟨nn, ns, AN, bn0, bn1, bn2, HN⟩ := aat_letters nw hnw
        go_upto_region 19 with (go_at_call 6; refine (AN _).mono ?_; rintro e w8 ⟨rfl, hb8⟩)
        clear AN
        have bA : Below w7.heap.size w7 (w8.alloc (.cells #[.int .u64 nn, .int .i64 ns, .pointer none] 29)) := hb8.alloc hb8.size _
        have p3 := al_new w8 (.cells #[.int .u64 nn, .int .i64 ns, .pointer none] 29) _ rfl
        generalize hg3 : w8.heap.size = g3 at *
        generalize (w8.alloc (.cells #[.int .u64 nn, .int .i64 ns, .pointer none] 29)) = w9 at *
        replace bb := below_more bb (Nat.le_refl _) bA
        replace hd := hd.below bA
        replace hj2 := kept bA hj2
        replace m1 := kept bA m1
        replace t1 := kept bA t1
        replace p1 := kept bA p1
        replace p2 := kept bA p2
        clear bA hb8 hg3 w8
        have hJl := hJ.1
        go_upto_region 20 with (first
          | (refine wpList_load_row (by rfl) 23 (.tmp 15) (by rfl) (w.heap.size + 1) (by rfl) 23 (idv J) (0, 0) _ hj2 Yba.underlying23 (by rfl) (info23 hJl) ?_)
          | (refine wpList_load_row (by rfl) 29 (.tmp 21) (by rfl) g1 (by rfl) 29 #[.int .u64 hn, .int .i64 hs, .pointer none] (0, 0) _ p1 Yba.underlying29 (by rfl) (by kernel_rfl) ?_)
          | (refine wpList_load_row (by rfl) 29 (.tmp 22) (by rfl) g2 (by rfl) 29 #[.int .u64 cn, .int .i64 cs, .pointer none] (0, 0) _ p2 Yba.underlying29 (by rfl) (by kernel_rfl) ?_)
          | (refine wpList_build (by rfl) 46 #[(0, .tmp 83)] (by rfl) #[(0, .agg (idv J))] (by rfl) (.agg (peerP J 0)) (build46I J hJl _) ?_)
          | (refine wpList_build (by rfl) 57 #[(0, .tmp 84)] (by rfl) #[(0, .agg (peerP J 0))] (by rfl) (.agg (peerP J 0)) (build57I J hJl _) ?_)
          | (refine wpList_build (by rfl) 68 #[(0, .tmp 85), (2, .tmp 86), (3, .tmp 87)] (by rfl) #[(0, .agg (peerP J 0)), (2, .agg #[.int .u64 hn, .int .i64 hs, .pointer none]), (3, .agg #[.int .u64 cn, .int .i64 cs, .pointer none])] (by rfl) (.agg (lnkA J hn hs cn cs)) (build68I J hJl hn hs cn cs _) ?_))
        try go_frame
        have bA : Below w9.heap.size w9 (w9.alloc (.cells (lnkA J hn hs cn cs) 68)) := (Below.refl _ _).alloc (Nat.le_refl _) _
        have l1 := al_new w9 (.cells (lnkA J hn hs cn cs) 68) _ rfl
        generalize hgl : w9.heap.size = gl at *
        generalize (w9.alloc (.cells (lnkA J hn hs cn cs) 68)) = wA at *
        replace bb := below_more bb (Nat.le_refl _) (hgl ▸ bA)
        replace hd := hd.below (hgl ▸ bA)
        replace hj2 := kept (hgl ▸ bA) hj2
        replace m1 := kept (hgl ▸ bA) m1
        replace t1 := kept (hgl ▸ bA) t1
        replace p1 := kept (hgl ▸ bA) p1
        replace p2 := kept (hgl ▸ bA) p2
        replace p3 := kept (hgl ▸ bA) p3
        clear bA hgl
        have LG := lnkA_get hJl hn hs cn cs
        have ST := state_any gt gl gm (peerP J 0) J r ids n nn ns hn hs cn cs (per * 1000000) (peerP_size hJl 0) (peerP_one hJl 0) hJ (peerP_id hJl 0) (by omega) bn0 bn1 bn2 bh0 bh1 bh2 bc0 bc1 bc2 wA (lnkA_range l1) (Array.getElem?_eq_some_iff.1 l1).1
          (by rw [cell_of_row _ _ _ _ _ _ t1]; rfl) (by rw [cell_of_row _ _ _ _ _ _ t1]; rfl) (by rw [cell_of_row _ _ _ _ _ _ m1]; rfl) (by rw [cell_of_row _ _ _ _ _ _ l1]; exact LG.1) (by rw [cell_of_row _ _ _ _ _ _ l1]; exact LG.2.1) (by rw [cell_of_row _ _ _ _ _ _ l1]; exact LG.2.2.1) (by rw [cell_of_row _ _ _ _ _ _ l1]; exact LG.2.2.2.1) (by rw [cell_of_row _ _ _ _ _ _ l1]; exact LG.2.2.2.2.1) (by rw [cell_of_row _ _ _ _ _ _ l1]; exact LG.2.2.2.2.2) hd
        rw [state_ms (per := per) hh hc hnw HH.out HC.out HN.out (decide (J ∈ ids))] at ST
        obtain ⟨sv, hsv⟩ : ∃ sv : Int, sv = if decide (J ∈ ids) = true then 2 else if nw - h < per ∧ nw - c < per then 0 else 1 := ⟨_, rfl⟩
        rw [← hsv] at ST
        have SV : Hid (sv = if decide (J ∈ ids) = true then 2 else if nw - h < per ∧ nw - c < per then 0 else 1) := hsv
        clear hsv HH HC HN LG
        go_upto_region 21 with (first
          | (refine wpList_load_row (by rfl) 29 (.tmp 23) (by rfl) g3 (by rfl) 29 #[.int .u64 nn, .int .i64 ns, .pointer none] (0, 0) _ p3 Yba.underlying29 (by rfl) (by kernel_rfl) ?_)
          | (go_at_call 7; refine ST.mono ?_; rintro e wB ⟨rfl, hbB⟩))
        clear ST p3 w9
        replace bb := below_more bb (Nat.le_refl _) hbB
        replace hd := hd.below hbB
        replace hj2 := kept hbB hj2
        replace m1 := kept hbB m1
        replace t1 := kept hbB t1
        replace p1 := kept hbB p1
        replace p2 := kept hbB p2
        replace l1 := kept hbB l1
        clear hbB wA
        go_wp2_with fail
        go_loopw [26, 27] (fun s i wx => ∃ k : Nat, k ≤ len0 ∧ i = .int .i64 k ∧ ∃ dk : Bool, s = .bool dk ∧ Hid (dk = decide (J ∈ ids.take k)) ∧ ∃ nq, wx = wB.drewN nq) (fun _ i _ => len0 - (intOf i).toNat)
        case atStart => exact ⟨0, Nat.zero_le _, rfl, false, rfl, by show _ = _; simp, 0, rfl⟩
        case round =>
          obtain ⟨k, hk, rfl, dk, rfl, HD, nq, rfl⟩ := hrel
          by_cases hlt : k < len0
          · obtain ⟨b, o, hix, hb, hra, hI⟩ := w0.at (cap := cap0) hlt
            have hr2 := rangeAt_below hra bb hb
            have HT : Hid (ids.take (k + 1) = ids.take k ++ [ids.getD k []]) := take_next (ids := ids) (k := k) (by omega)
            generalize ids.getD k [] = I at *
            have LD1 : ∀ wx, (∃ n, wx = (wB.drewN nq).drewN n) → (Instr.loadAt 23 (.pointer (some ⟨b, o + k * 16, none⟩))).run Yba.prog wx = .ok (.agg (idv I)) wx := by
              rintro _ ⟨n', rfl⟩
              exact load_many (B := wB.heap.size) hr2 ⟨rfl, rfl, rfl, Nat.le_refl _, fun _ _ => rfl⟩ (by have := bb.size; omega) Yba.underlying23 rfl (info23l hI.1)
            have LD2 : ∀ wx, (∃ n, wx = (wB.drewN nq).drewN n) → (Instr.loadAt 23 (.pointer (some ⟨w.heap.size + 1, 0, none⟩))).run Yba.prog wx = .ok (.agg (idv J)) wx := by
              rintro _ ⟨n', rfl⟩
              exact load_many (B := wB.heap.size) (range_of_block hj2 0 _ (fun j v hv => by simpa using hv)) ⟨rfl, rfl, rfl, Nat.le_refl _, fun _ _ => rfl⟩ (Array.getElem?_eq_some_iff.1 hj2).1 Yba.underlying23 rfl (info23l hJl)
            have E := eql23 hI hJ
            clear hra hr2 hd m1 t1 p1 p2 l1 hj2 SV
            by_cases e : I = J
            · rw [show decide (I = J) = true by simpa using e] at E
              have HE : Hid (I = J) := e
              clear e
              go_wp2_with fail
              refine wp_region_quiet_lit (by kernel_rfl) (by kernel_rfl) ?_
              repeat (first
                | (go_big_quiet_want; refine quiet_load 23 (.tmp 101) (by rfl) (.pointer (some ⟨b, o + k * 16, none⟩)) (.agg (idv I)) (by rfl) LD1 ?_; go_big_quiet_on; go_frame)
                | (go_big_quiet_want; refine quiet_load 23 (.tmp 15) (by rfl) (.pointer (some ⟨w.heap.size + 1, 0, none⟩)) (.agg (idv J)) (by rfl) LD2 ?_; go_big_quiet_on; go_frame)
                | go_big_quiet_step (fail))
              refine wpQuiet_nil ?_
              rintro _ ⟨nq2, rfl⟩
              clear LD1 LD2
              go_wp2_with fail
              go_roundw
              case rel => exact ⟨k + 1, by omega, by go_num, true, rfl, mem_new HT.out HE.out, nq + nq2, rfl⟩
              case measure => simp [intOf]; omega
            · rw [show decide (I = J) = false by simpa using e] at E
              have HE : Hid (¬ I = J) := e
              clear e
              go_wp2_with fail
              refine wp_region_quiet_lit (by kernel_rfl) (by kernel_rfl) ?_
              repeat (first
                | (go_big_quiet_want; refine quiet_load 23 (.tmp 101) (by rfl) (.pointer (some ⟨b, o + k * 16, none⟩)) (.agg (idv I)) (by rfl) LD1 ?_; go_big_quiet_on; go_frame)
                | (go_big_quiet_want; refine quiet_load 23 (.tmp 15) (by rfl) (.pointer (some ⟨w.heap.size + 1, 0, none⟩)) (.agg (idv J)) (by rfl) LD2 ?_; go_big_quiet_on; go_frame)
                | go_big_quiet_step (fail))
              refine wpQuiet_nil ?_
              rintro _ ⟨nq2, rfl⟩
              clear LD1 LD2
              go_wp2_with fail
              go_roundw
              case rel => exact ⟨k + 1, by omega, by go_num, dk, rfl, mem_old HT.out HD.out HE.out, nq + nq2, rfl⟩
              case measure => simp [intOf]; omega
          · have hkk : k = len0 := by omega
            subst hkk
            have hdk : dk = decide (J ∈ ids) := by rw [HD.out, ← hlen, List.take_length]
            have SV2 : Hid (sv = if dk = true then 2 else if nw - h < per ∧ nw - c < per then 0 else 1) := by have := SV.out; rw [← hdk] at this; exact this
            clear SV HD hdk
            have bD : Below wB.heap.size wB (wB.drewN nq) := ⟨rfl, rfl, rfl, Nat.le_refl _, fun _ _ => rfl⟩
            replace bb := below_more bb (Nat.le_refl _) bD
            replace hd := hd.below bD
            replace hj2 := kept bD hj2
            replace m1 := kept bD m1
            replace t1 := kept bD t1
            replace p1 := kept bD p1
            replace p2 := kept bD p2
            replace l1 := kept bD l1
            generalize wB.drewN nq = wD at *
            clear bD
            go_upto_block 4 with fail
            go_cut [28] (fun s wx => s = .int .i64 sv ∧ wx = wD)
            case first =>
              clear hd hj2 m1 t1 p1 p2 l1 bb w0
              cases dk
              · by_cases h1 : nw - h < per
                · by_cases h2 : nw - c < per
                  · (obtain rfl : sv = 0 := by rw [SV2.out]; simp [h1, h2])
                    go_wp2_with fail
                    go_meet
                    exact ⟨rfl, rfl⟩
                  · (obtain rfl : sv = 1 := by rw [SV2.out]; simp [h2])
                    go_wp2_with fail
                    go_meet
                    exact ⟨rfl, rfl⟩
                · (obtain rfl : sv = 1 := by rw [SV2.out]; simp [h1])
                  go_wp2_with fail
                  go_meet
                  exact ⟨rfl, rfl⟩
              · (obtain rfl : sv = 2 := by rw [SV2.out]; simp)
                go_wp2_with fail
                go_meet
                exact ⟨rfl, rfl⟩
            case rest =>
              obtain ⟨rfl, rfl⟩ := hcut
              clear SV2 w0
              go_upto_region 35 with fail
              have hgl := (Array.getElem?_eq_some_iff.1 l1).1
              have LN := fun d os => (hd.below (below_regrown wc d os)).len 3
              have LI : ∀ wx, (∃ p : Regrown, wx = grow (redrawn wc p.d) p.os) → (Instr.loadAt 30 (.pointer (some ⟨gl, 0, none⟩))).run Yba.prog wx = .ok (.agg (idv J)) wx := by
                rintro _ ⟨p, rfl⟩
                exact load_many (lnkA_idrange l1) (below_regrown wc p.d p.os) hgl Yba.underlying30 rfl (info30l hJl)
              have LJ : ∀ wx, (∃ p : Regrown, wx = grow (redrawn wc p.d) p.os) → (Instr.loadAt 23 (.pointer (some ⟨w.heap.size + 1, 0, none⟩))).run Yba.prog wx = .ok (.agg (idv J)) wx := by
                rintro _ ⟨p, rfl⟩
                exact load_many (range_of_block hj2 0 _ (fun j v hv => by simpa using hv)) (below_regrown wc p.d p.os) (Array.getElem?_eq_some_iff.1 hj2).1 Yba.underlying23 rfl (info23l hJl)
              have E := neq30 hJ
              have LG := lnkA_get hJl hn hs cn cs
              have x0 := cell_regrown ((cell_of_row _ _ _ _ _ _ l1).trans LG.1)
              have x1 := cell_regrown ((cell_of_row _ _ _ _ _ _ l1).trans LG.2.1)
              have x2 := cell_regrown ((cell_of_row _ _ _ _ _ _ l1).trans LG.2.2.1)
              have x3 := cell_regrown ((cell_of_row _ _ _ _ _ _ l1).trans LG.2.2.2.1)
              have x4 := cell_regrown ((cell_of_row _ _ _ _ _ _ l1).trans LG.2.2.2.2.1)
              have x5 := cell_regrown ((cell_of_row _ _ _ _ _ _ l1).trans LG.2.2.2.2.2)
              have y0 := cell_regrown (v := .int .u64 hn) (a := ⟨g1, 0, none⟩) ((cell_of_row _ _ _ _ _ _ p1).trans rfl)
              have y1 := cell_regrown (v := .int .i64 hs) (a := ⟨g1, 1, none⟩) ((cell_of_row _ _ _ _ _ _ p1).trans rfl)
              have y2 := cell_regrown (v := .pointer none) (a := ⟨g1, 2, none⟩) ((cell_of_row _ _ _ _ _ _ p1).trans rfl)
              have y3 := cell_regrown (v := .int .u64 cn) (a := ⟨g2, 0, none⟩) ((cell_of_row _ _ _ _ _ _ p2).trans rfl)
              have y4 := cell_regrown (v := .int .i64 cs) (a := ⟨g2, 1, none⟩) ((cell_of_row _ _ _ _ _ _ p2).trans rfl)
              have y5 := cell_regrown (v := .pointer none) (a := ⟨g2, 2, none⟩) ((cell_of_row _ _ _ _ _ _ p2).trans rfl)
              have q0 := cell_regrown (v := .pointer (some ⟨gm, 0, none⟩)) (a := ⟨gt, 20, none⟩) ((cell_of_row _ _ _ _ _ _ t1).trans rfl)
              have q1 := cell_regrown (v := .int .i64 (per * 1000000)) (a := ⟨gm, 0, none⟩) ((cell_of_row _ _ _ _ _ _ m1).trans rfl)
              have q2 := ptr31_same ⟨gm, 0, none⟩
              have C1 : ∀ d os, Calls Yba.prog 8 #[.agg #[.int .u64 hn, .int .i64 hs, .pointer none], .agg #[.int .u64 hn, .int .i64 hs, .pointer none]] (grow (redrawn wc d) os) fun e w'' => e = .returned (.bool true) ∧ ∃ p : Regrown, w'' = grow (redrawn wc p.d) p.os :=
                fun d os => Calls.regrown_of (by have := equal_any hn hs hn hs bh0 bh1 bh0 bh1 (grow (redrawn wc d) os); rwa [show eqT hn hs hn hs = true by simp [eqT]] at this)
              have C2 : ∀ d os, Calls Yba.prog 8 #[.agg #[.int .u64 cn, .int .i64 cs, .pointer none], .agg #[.int .u64 cn, .int .i64 cs, .pointer none]] (grow (redrawn wc d) os) fun e w'' => e = .returned (.bool true) ∧ ∃ p : Regrown, w'' = grow (redrawn wc p.d) p.os :=
                fun d os => Calls.regrown_of (by have := equal_any cn cs cn cs bc0 bc1 bc0 bc1 (grow (redrawn wc d) os); rwa [show eqT cn cs cn cs = true by simp [eqT]] at this)
              clear LG hd l1 p1 p2 t1 m1 hj2
              refine wp_region_quiet_below (by kernel_rfl) (by kernel_rfl) ?_
              repeat (first
                | (go_big_quiet_want; refine quiet_load 30 (.tmp 138) (by rfl) (.pointer (some ⟨gl, 0, none⟩)) (.agg (idv J)) (by rfl) LI ?_; go_big_quiet_on; go_frame)
                | (go_big_quiet_want; refine quiet_load 23 (.tmp 15) (by rfl) (.pointer (some ⟨w.heap.size + 1, 0, none⟩)) (.agg (idv J)) (by rfl) LJ ?_; go_big_quiet_on; go_frame)
                | go_big_quiet_step (first | with_reducible exact C1 _ _ | with_reducible exact C2 _ _))
              refine wpQuiet_nil ?_
              rintro w2 ⟨⟨dq, oq⟩, rfl⟩
              have bq := below_more bb (Nat.le_refl _) (below_regrown wc dq oq)
              clear LI LJ C1 C2
              go_wp2_with fail
              go_ret
              exact ⟨rfl, bq⟩

end Go.Proofs.Ybulkdwxc

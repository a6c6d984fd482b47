import Derived.Test.YbulkdwtiSelf
import Derived.BigQuiet
import Derived.Deep.AppendLies
import Derived.Maps.RangeWalk
namespace Go.Proofs.Ybulkdwti
open Go.RowKit Go.Maps

theorem keyed3 : Keyed Yba.prog 3 := int_keyed Yba.underlying3
theorem zero37 (w : World) : (zeroValue 37).run Yba.prog w = .ok (.pointer none) w := by kernel_rfl
theorem zero3 (w : World) : (zeroValue 3).run Yba.prog w = .ok (.int .i64 0) w := by kernel_rfl
theorem Yba.info3 : (Yba.prog.info? 3).map (fun i => (i.zero, i.size, i.bytes)) = some (some (.int .i64 0), 1, 8) := by kernel_rfl
theorem Yba.info37 : (Yba.prog.info? 37).map (fun i => (i.zero, i.size, i.bytes)) = some (some (.pointer none), 1, 8) := by kernel_rfl
theorem Yba.info39 : (Yba.prog.info? 39).map (fun i => (i.zero, i.size, i.bytes)) = some (some (.agg #[.int .i64 0, .string ⟨#[]⟩, .int .i64 0]), 3, 32) := by kernel_rfl

set_option maxHeartbeats 400000 in
/-- The entry is there: its pointer is handed back, nothing turns. -/
theorem named_was (A Bm n : Nat) (number line : Int) (D : DataW Value) (p : Nat) (w : World) (wn : (Lit.int .i64 number).wf = true)
    (c17 : w.cell? ⟨A, 17, none⟩ = some (.map (some Bm))) (hm : w.ownsMap Yba.prog 3 selfElem Bm n D) (hh : Maps.has D (.int .i64 number) = true)
    (hv : D.atKey (.int .i64 number) (.held (.pointer none)) = .held (.pointer (some ⟨p, 0, none⟩))) :
    Calls Yba.prog 9 #[.pointer (some ⟨A, 0, none⟩), .int .i64 number, .int .i64 line] w fun e w' => e = .returned (.pointer (some ⟨p, 0, none⟩)) ∧ w' = w := by
  have hl := lookup_self_ok hm keyed3 Yba.underlying35 (zero37 w) (keyOf_int_mk Yba.underlying3 wn) hv
  rw [hh] at hl
  clear hv hh hm
  go_enter Yba.func9, Yba.ntmps9
  go_wp2
  go_ret
  exact ⟨rfl, rfl⟩

/-- What the append leaves of the receiver, behind the store of 'unsorted'. -/
theorem named_mid {A Bm g n len c : Nat} {number line : Int} {D : DataW Value} {w w1 w3 : World} {b : Bool} (hAB : A ≠ Bm) (hAg : A ≠ g) (hgm : g ≠ Bm) (hA : A < w.heap.size) (hg : g < w.heap.size)
    (T1' : Turn (fun k => k = Bm) w w1) (hsz : w.heap.size < w1.heap.size)
    (d17 : w1.cell? ⟨A, 17, none⟩ = some (.map (some Bm))) (d18 : w1.cell? ⟨A, 18, none⟩ = some (.slice (some ⟨g, 0, none⟩) len c)) (d19 : ∃ u, w1.cell? ⟨A, 19, none⟩ = some u)
    (e18 : w1.frozen? ⟨A, 18, none⟩ = false) (hm1 : w1.ownsMap Yba.prog 3 selfElem Bm n D)
    (hnew : w1.heap[w.heap.size]? = some (.cells #[.int .i64 line, .string ⟨#[]⟩, .int .i64 0] 39 (0, 0)))
    (hg3 : ((w1.setCell ⟨A, 19, none⟩ (.bool b)).alloc (.cells #[.int .i64 number] 3)).drew.grownBy w3 (some g)) :
    Turn (fun k => k = A ∨ k = Bm ∨ k = g) w w3 ∧ w.heap.size < w3.heap.size ∧ w3.cell? ⟨A, 17, none⟩ = some (.map (some Bm)) ∧ w3.cell? ⟨A, 18, none⟩ = some (.slice (some ⟨g, 0, none⟩) len c) ∧
      w3.cell? ⟨A, 19, none⟩ = some (.bool b) ∧ w3.frozen? ⟨A, 18, none⟩ = false ∧ w3.ownsMap Yba.prog 3 selfElem Bm n D ∧
      w3.heap[w.heap.size]? = some (.cells #[.int .i64 line, .string ⟨#[]⟩, .int .i64 0] 39 (0, 0)) := by
  have hA1 : A < w1.heap.size := by omega
  have hs2 : (w1.setCell ⟨A, 19, none⟩ (.bool b)).heap.size = w1.heap.size := by simp [World.setCell]
  have Ta : Turn (fun k => k = A) w1 ((w1.setCell ⟨A, 19, none⟩ (.bool b)).alloc (.cells #[.int .i64 number] 3)).drew := (((Turn.refl (fun k => k = A) w1).setCell (p := ⟨A, 19, none⟩) rfl _).alloc _).drew
  have Tb : Turn (fun k => k = g) ((w1.setCell ⟨A, 19, none⟩ (.bool b)).alloc (.cells #[.int .i64 number] 3)).drew w3 := (Turn.refl _ _).grown hg3 (by intro k hk; cases hk; rfl)
  have Tc : Turn (fun k => k = A ∨ k = g) w1 w3 := (Ta.mono (fun k h => .inl h)).trans (Tb.mono (fun k h => .inr h))
  have hz3 := Tc.size
  have hAa : A < (((w1.setCell ⟨A, 19, none⟩ (.bool b)).alloc (.cells #[.int .i64 number] 3)).drew).heap.size := by have := Ta.size; omega
  obtain ⟨u0, d19⟩ := d19
  refine ⟨(T1'.mono (fun k h => .inr (.inl h))).trans (Tc.mono (fun k h => by rcases h with h | h <;> simp [h])), by omega, ?_, ?_, ?_, ?_, ?_, ?_⟩
  · rw [Tb.cell hAa hAg]
    show ((w1.setCell ⟨A, 19, none⟩ (.bool b)).alloc _).cell? _ = _
    rw [World.cell?_alloc_past _ _ _ (by simp [World.setCell]; omega), World.cell?_setCell_other _ _ _ _ (by simp), d17]
  · rw [Tb.cell hAa hAg]
    show ((w1.setCell ⟨A, 19, none⟩ (.bool b)).alloc _).cell? _ = _
    rw [World.cell?_alloc_past _ _ _ (by simp [World.setCell]; omega), World.cell?_setCell_other _ _ _ _ (by simp), d18]
  · rw [Tb.cell hAa hAg]
    show ((w1.setCell ⟨A, 19, none⟩ (.bool b)).alloc _).cell? _ = _
    rw [World.cell?_alloc_past _ _ _ (by simp [World.setCell]; omega), World.cell?_setCell_same _ _ _ d19]
  · rw [Tb.frozen hAa hAg]
    show ((w1.setCell ⟨A, 19, none⟩ (.bool b)).alloc _).frozen? _ = _
    rw [World.frozen?_alloc_past _ _ _ (by simp [World.setCell]; omega), World.frozen?_setCell, e18]
  · exact Tc.ownsMap hm1 (by rintro (h | h) <;> omega)
  · rw [Tc.block _ hsz (by rintro (h | h) <;> omega), hnew]

theorem named_end {A Bm g n B len c g3 c3 h3 : Nat} {number line : Int} {zs : List Int} {D : DataW Value} {w w3 : World} {b : Bool} (hAB : A ≠ Bm) (hAg : A ≠ g) (hA : A < w.heap.size) (hA3 : A < h3)
    (T3 : Turn (fun k => k = A ∨ k = Bm ∨ k = g) w w3) (s3 : w.heap.size < w3.heap.size) (f17 : w3.cell? ⟨A, 17, none⟩ = some (.map (some Bm))) (f18 : w3.cell? ⟨A, 18, none⟩ = some (.slice (some ⟨g, 0, none⟩) len c))
    (f19 : w3.cell? ⟨A, 19, none⟩ = some (.bool b)) (fm : w3.ownsMap Yba.prog 3 selfElem Bm n D) (fnew : w3.heap[w.heap.size]? = some (.cells #[.int .i64 line, .string ⟨#[]⟩, .int .i64 0] 39 (0, 0)))
    (hr3 : w3.ownsRow B 3 1 (.slice (some ⟨g3, 0, none⟩) (len + 1) c3) (len + 1) (zs.map (.int .i64) ++ [.int .i64 number])) (hg3 : some g = some g3 ∨ g3 = h3) :
    ∃ g' c', Turn (fun k => k = A ∨ k = Bm ∨ k = g) w (w3.setCell ⟨A, 18, none⟩ (.slice (some ⟨g3, 0, none⟩) (len + 1) c3)) ∧ w.heap.size < (w3.setCell ⟨A, 18, none⟩ (.slice (some ⟨g3, 0, none⟩) (len + 1) c3)).heap.size ∧
      (w3.setCell ⟨A, 18, none⟩ (.slice (some ⟨g3, 0, none⟩) (len + 1) c3)).cell? ⟨A, 17, none⟩ = some (.map (some Bm)) ∧
      (w3.setCell ⟨A, 18, none⟩ (.slice (some ⟨g3, 0, none⟩) (len + 1) c3)).cell? ⟨A, 18, none⟩ = some (.slice (some ⟨g', 0, none⟩) (len + 1) c') ∧
      (w3.setCell ⟨A, 18, none⟩ (.slice (some ⟨g3, 0, none⟩) (len + 1) c3)).cell? ⟨A, 19, none⟩ = some (.bool b) ∧
      (w3.setCell ⟨A, 18, none⟩ (.slice (some ⟨g3, 0, none⟩) (len + 1) c3)).ownsMap Yba.prog 3 selfElem Bm n D ∧
      (w3.setCell ⟨A, 18, none⟩ (.slice (some ⟨g3, 0, none⟩) (len + 1) c3)).ownsRow B 3 1 (.slice (some ⟨g', 0, none⟩) (len + 1) c') (len + 1) ((zs ++ [number]).map (.int .i64)) ∧
      (w3.setCell ⟨A, 18, none⟩ (.slice (some ⟨g3, 0, none⟩) (len + 1) c3)).heap[w.heap.size]? = some (.cells #[.int .i64 line, .string ⟨#[]⟩, .int .i64 0] 39 (0, 0)) := by
  have hAg3 : A ≠ g3 := by
    rcases hg3 with h | h
    · cases h; exact hAg
    · omega
  have Ta : Turn (fun k => k = A) w3 (w3.setCell ⟨A, 18, none⟩ (.slice (some ⟨g3, 0, none⟩) (len + 1) c3)) := (Turn.refl (fun k => k = A) w3).setCell (p := ⟨A, 18, none⟩) rfl _
  refine ⟨g3, c3, T3.trans (Ta.mono (fun k h => .inl h)), by simpa [World.setCell] using s3, ?_, World.cell?_setCell_same _ _ _ f18, ?_, Ta.ownsMap fm (Ne.symm hAB), ?_, ?_⟩
  · rw [World.cell?_setCell_other _ _ _ _ (by simp), f17]
  · rw [World.cell?_setCell_other _ _ _ _ (by simp), f19]
  · simpa using Ta.ownsRow hr3 (by intro k hk; cases hk; exact Ne.symm hAg3)
  · rw [Ta.block _ s3 (by omega), fnew]

set_option maxRecDepth 100000 in
set_option maxHeartbeats 400000 in
theorem named_new (A Bm n B : Nat) (number line : Int) (D : DataW Value) (w : World) (wn : (Lit.int .i64 number).wf = true) (u : Bool) (g c len : Nat) (zs : List Int) (hlen : len ≤ 65536) (hn : n ≤ 65536) (hAB : A ≠ Bm) (hAg : A ≠ g) (hg : g < w.heap.size) (hB : B ≤ w.heap.size)
    (c17 : w.cell? ⟨A, 17, none⟩ = some (.map (some Bm))) (c18 : w.cell? ⟨A, 18, none⟩ = some (.slice (some ⟨g, 0, none⟩) len c)) (c19 : w.cell? ⟨A, 19, none⟩ = some (.bool u))
    (f18 : w.frozen? ⟨A, 18, none⟩ = false) (f19 : w.frozen? ⟨A, 19, none⟩ = false)
    (hm : w.ownsMap Yba.prog 3 selfElem Bm n D) (hh : Maps.has D (.int .i64 number) = false)
    (hr : w.ownsRow B 3 1 (.slice (some ⟨g, 0, none⟩) len c) len (zs.map (.int .i64))) :
    Calls Yba.prog 9 #[.pointer (some ⟨A, 0, none⟩), .int .i64 number, .int .i64 line] w fun e w' => e = .returned (.pointer (some ⟨w.heap.size, 0, none⟩)) ∧ ∃ g' c',
      Turn (fun k => k = A ∨ k = Bm ∨ k = g) w w' ∧ w.heap.size < w'.heap.size ∧ w'.cell? ⟨A, 17, none⟩ = some (.map (some Bm)) ∧ w'.cell? ⟨A, 18, none⟩ = some (.slice (some ⟨g', 0, none⟩) (len + 1) c') ∧
      w'.cell? ⟨A, 19, none⟩ = some (.bool (u || (decide (0 < len) && decide (number < zs.getD (len - 1) 0)))) ∧
      w'.ownsMap Yba.prog 3 selfElem Bm (n + 1) (D.put (.int .i64 number) (.held (.pointer (some ⟨w.heap.size, 0, none⟩)))) ∧
      w'.ownsRow B 3 1 (.slice (some ⟨g', 0, none⟩) (len + 1) c') (len + 1) ((zs ++ [number]).map (.int .i64)) ∧
      w'.heap[w.heap.size]? = some (.cells #[.int .i64 line, .string ⟨#[]⟩, .int .i64 0] 39 (0, 0)) := by
  have hl := lookup_self_ok hm keyed3 Yba.underlying35 (zero37 w) (keyOf_int_mk Yba.underlying3 wn) (atKey_of_not_has hh _)
  rw [hh] at hl
  have hA : A < w.heap.size := World.block_lt_of_cell? w _ c17
  clear hh
  go_enter Yba.func9, Yba.ntmps9
  go_wp2_with (first
      | (at_mapUpdate; refine wpList_mapUpdate_own _ rfl _ _ _ 35 rfl 3 37 keyed3 Yba.underlying35 selfElem Bm n D rfl (hm.alloc _) (by unfold maxLen; omega) _ _ _ rfl rfl (keyOf_int_mk Yba.underlying3 wn) (.held (.pointer (some ⟨w.heap.size, 0, none⟩))) [] rfl ?_; intro w1 hm1 hg1)
      | go_in)
  have T1 : Turn (fun k => k = A ∨ k = Bm ∨ k = g) w w1 := ((Turn.refl _ _).alloc _).grown hg1 (by intro k hk; cases hk; exact .inr (.inl rfl))
  have T1' : Turn (fun k => k = Bm) w w1 := ((Turn.refl _ _).alloc _).grown hg1 (by intro k hk; cases hk; rfl)
  have d17 : w1.cell? ⟨A, 17, none⟩ = some (.map (some Bm)) := (T1'.cell hA hAB).trans c17
  have d18 : w1.cell? ⟨A, 18, none⟩ = some (.slice (some ⟨g, 0, none⟩) len c) := (T1'.cell hA hAB).trans c18
  have d19 : w1.cell? ⟨A, 19, none⟩ = some (.bool u) := (T1'.cell hA hAB).trans c19
  have e18 : w1.frozen? ⟨A, 18, none⟩ = false := (T1'.frozen hA hAB).trans f18
  have e19 : w1.frozen? ⟨A, 19, none⟩ = false := (T1'.frozen hA hAB).trans f19
  have hgm : g ≠ Bm := row_not_map hr hm
  have hr1 := T1'.ownsRow hr (by intro k hk; cases hk; exact hgm)
  have hlast : 0 < len → w1.cell? ⟨g, len - 1, none⟩ = some (.int .i64 (zs.getD (len - 1) 0)) := by
    intro h
    have hl1 := hr.1
    rw [hr1.cellAt (len - 1) (by omega)]
    simp at hl1
    simp [List.getElem?_eq_getElem (show len - 1 < zs.length by omega)]
  clear c17 c18 c19 f18 f19 hl
  obtain ⟨i0, hi, hz0, hz1, hz2⟩ := info_parts Yba.info3
  go_frame
  have hsz : w.heap.size < w1.heap.size := by have := hg1.size; simp at this; omega
  have hB1 : B ≤ w1.heap.size := by omega
  have hnew : w1.heap[w.heap.size]? = some (.cells #[.int .i64 line, .string ⟨#[]⟩, .int .i64 0] 39 (0, 0)) := by
    rw [hg1.block _ (by simp) (by have := hm.lt; simp; omega)]
    exact heap_alloc_new w _
  clear hm hr hg1
  cases u
  · by_cases h0 : len = 0
    · have hd : decide ((0 : Int) < (len : Int)) = false := by simp [h0]
      have hd' : decide (0 < len) = false := by simp [h0]
      have H0 : Hid (len = 0) := h0
      clear h0
      have MID := fun w3 => named_mid (number := number) (b := false) (w3 := w3) hAB hAg hgm hA hg T1' hsz d17 d18 ⟨_, d19⟩ e18 hm1 hnew
      go_region
      go_wp2_with (first
        | (at_builtin; refine wpList_append_lies _ rfl _ _ 22 rfl B 3 i0 (.int .i64 0) 1 8 Yba.underlying22 hi hz0 hz1 hz2 rfl (by decide) (.slice (some ⟨g, 0, none⟩) len c) len (zs.map (.int .i64)) rfl ?hown ⟨w1.heap.size, 0, none⟩ 1 1 [.int .i64 number] rfl rfl ?hnews (ints_oneCell .i64 [number]) (by decide) (by unfold maxLen; omega) (by omega) ?hbase (w1.heap.size + 1) (by simp) ?_)
        | go_in)
      case hown => exact Turn.ownsRow (S := fun k => k = A) (((Turn.refl (fun k => k = A) w1).setCell (p := ⟨A, 19, none⟩) rfl _).alloc _).drew hr1 (by intro k hk; cases hk; exact Ne.symm hAg)
      case hnews => exact World.news_of_block (cs := #[.int .i64 number]) (t := 3) (fr := (0, 0)) (by have := heap_alloc_new (w1.setCell ⟨A, 19, none⟩ (.bool false)) (.cells #[.int .i64 number] 3); simpa [World.setCell, World.drew] using this)
      case hbase => simp; omega
      intro g3 c3 w3 hr3 hg3 hl3 _
      obtain ⟨T3, s3, f17, f18, f19, fz18, fm, fnew⟩ := MID w3 hg3
      clear hg3 hr1 hlast d17 d18 d19 e18 e19 T1 T1'
      have FIN := named_end (h3 := w1.heap.size + 1) hAB hAg hA (by omega) T3 s3 f17 f18 f19 fm fnew hr3 (by simpa [Value.ownBlock] using hl3)
      clear fm fnew hr3 T3 hm1 hnew
      have FF : Hid _ := FIN
      clear FIN
      go_wp2
      go_ret
      exact ⟨rfl, by simpa [H0.out] using FF.out⟩
    · have hd : (0 : Int) < (len : Int) := by omega
      have hd' : decide (0 < len) = true := by simp; omega
      have hl := hlast (by omega)
      have hb1 : (0 : Int) ≤ (len : Int) - 1 := by omega
      obtain ⟨q, hq⟩ : ∃ q, q = zs.getD (len - 1) 0 := ⟨_, rfl⟩
      rw [← hq] at hl
      have HQ : Hid (q = zs.getD (len - 1) 0) := hq
      clear hq
      have MID := fun w3 => named_mid (number := number) (b := decide (number < q)) (w3 := w3) hAB hAg hgm hA hg T1' hsz d17 d18 ⟨_, d19⟩ e18 hm1 hnew
      go_region
      go_wp2_with (first
        | (at_builtin; refine wpList_append_lies _ rfl _ _ 22 rfl B 3 i0 (.int .i64 0) 1 8 Yba.underlying22 hi hz0 hz1 hz2 rfl (by decide) (.slice (some ⟨g, 0, none⟩) len c) len (zs.map (.int .i64)) rfl ?hown ⟨w1.heap.size, 0, none⟩ 1 1 [.int .i64 number] rfl rfl ?hnews (ints_oneCell .i64 [number]) (by decide) (by unfold maxLen; omega) (by omega) ?hbase (w1.heap.size + 1) (by simp) ?_)
        | go_in)
      case hown => exact Turn.ownsRow (S := fun k => k = A) (((Turn.refl (fun k => k = A) w1).setCell (p := ⟨A, 19, none⟩) rfl _).alloc _).drew hr1 (by intro k hk; cases hk; exact Ne.symm hAg)
      case hnews => exact World.news_of_block (cs := #[.int .i64 number]) (t := 3) (fr := (0, 0)) (by have := heap_alloc_new (w1.setCell ⟨A, 19, none⟩ (.bool (decide (number < q)))) (.cells #[.int .i64 number] 3); simpa [World.setCell, World.drew] using this)
      case hbase => simp; omega
      intro g3 c3 w3 hr3 hg3 hl3 _
      obtain ⟨T3, s3, f17, f18, f19, fz18, fm, fnew⟩ := MID w3 hg3
      clear hg3 hr1 hlast d17 d18 d19 e18 e19 T1 T1'
      have FIN := named_end (h3 := w1.heap.size + 1) hAB hAg hA (by omega) T3 s3 f17 f18 f19 fm fnew hr3 (by simpa [Value.ownBlock] using hl3)
      clear fm fnew hr3 T3 hm1 hnew
      have FF : Hid _ := FIN
      clear FIN
      go_wp2
      go_ret
      exact ⟨rfl, by rw [← HQ.out]; simpa [hd'] using FF.out⟩
  · have MID := fun w3 => named_mid (number := number) (b := true) (w3 := w3) hAB hAg hgm hA hg T1' hsz d17 d18 ⟨_, d19⟩ e18 hm1 hnew
    go_region
    go_wp2_with (first
      | (at_builtin; refine wpList_append_lies _ rfl _ _ 22 rfl B 3 i0 (.int .i64 0) 1 8 Yba.underlying22 hi hz0 hz1 hz2 rfl (by decide) (.slice (some ⟨g, 0, none⟩) len c) len (zs.map (.int .i64)) rfl ?hown ⟨w1.heap.size, 0, none⟩ 1 1 [.int .i64 number] rfl rfl ?hnews (ints_oneCell .i64 [number]) (by decide) (by unfold maxLen; omega) (by omega) ?hbase (w1.heap.size + 1) (by simp) ?_)
      | go_in)
    case hown => exact Turn.ownsRow (S := fun k => k = A) (((Turn.refl (fun k => k = A) w1).setCell (p := ⟨A, 19, none⟩) rfl _).alloc _).drew hr1 (by intro k hk; cases hk; exact Ne.symm hAg)
    case hnews => exact World.news_of_block (cs := #[.int .i64 number]) (t := 3) (fr := (0, 0)) (by have := heap_alloc_new (w1.setCell ⟨A, 19, none⟩ (.bool true)) (.cells #[.int .i64 number] 3); simpa [World.setCell, World.drew] using this)
    case hbase => simp; omega
    intro g3 c3 w3 hr3 hg3 hl3 _
    obtain ⟨T3, s3, f17, f18, f19, fz18, fm, fnew⟩ := MID w3 hg3
    clear hg3 hr1 hlast d17 d18 d19 e18 e19 T1 T1'
    have FIN := named_end (h3 := w1.heap.size + 1) hAB hAg hA (by omega) T3 s3 f17 f18 f19 fm fnew hr3 (by simpa [Value.ownBlock] using hl3)
    clear fm fnew hr3 T3 hm1 hnew
    have FF : Hid _ := FIN
    clear FIN
    go_wp2
    go_ret
    exact ⟨rfl, by simpa using FF.out⟩

end Go.Proofs.Ybulkdwti

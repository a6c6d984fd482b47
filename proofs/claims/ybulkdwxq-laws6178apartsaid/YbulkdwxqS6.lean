/-
  6178A: suspects.
-/
import Derived.Test.YbulkdwxqS5
namespace Go.Proofs.Ybulkdwxq
open Go.RowKit Go.Sort

theorem al_size (w : World) (o : Obj) : (w.alloc o).heap.size = w.heap.size + 1 := by
  show (w.heap.push o).size = _
  simp
theorem al_new (w : World) (o : Obj) (k : Nat) (h : k = w.heap.size) : (w.alloc o).heap[k]? = some o := by
  subst h
  show (w.heap.push o)[w.heap.size]? = _
  simp
theorem kept {w w' : World} {k : Nat} {o : Obj} (hb : Below w.heap.size w w') (h : w.heap[k]? = some o) : w'.heap[k]? = some o := by
  rw [hb.block k (Array.getElem?_eq_some_iff.1 h).1, h]
theorem below_grown {B : Nat} {w0 w w' : World} {b : Option Nat} (h : Below B w0 w) (hB : B ≤ w0.heap.size) (hg : w.grownBy w' b) (hb : ∀ x, b = some x → B ≤ x) : Below B w0 w' :=
  h.trans ⟨hg.os, hg.tape, hg.output, hg.size, fun k hk => hg.block k (by have := h.size; omega) (by intro e; have := hb k e.symm; omega)⟩
theorem own_below {w w' : World} {base : Nat} {e : TypeId} {size n : Nat} {v : Value} {xs : List Value} (hr : w.ownsRow base e size v n xs) (h : Below w.heap.size w w') : w'.ownsRow base e size v n xs := by
  refine ⟨hr.1, ?_⟩
  rcases hr.2 with hn | ⟨g, cap, cur, rfl, hb, hgg, rest⟩
  · exact .inl hn
  · exact .inr ⟨g, cap, cur, rfl, hb, kept h hgg, rest⟩
theorem info48p : ∃ i, Yba.prog.info? 48 = some i ∧ i.zero = some (.agg #[.int .i64 0, .int .u64 0, .slice none 0 0]) ∧ i.size = 3 ∧ i.bytes = 40 := by
  have h : (Yba.prog.info? 48).map (fun i => (i.zero, i.size, i.bytes)) = some (some (.agg #[.int .i64 0, .int .u64 0, .slice none 0 0]), 3, 40) := by kernel_rfl
  cases hi : Yba.prog.info? 48 with
  | none => rw [hi] at h; cases h
  | some i =>
    rw [hi] at h
    simp only [Option.map_some, Option.some.injEq, Prod.mk.injEq] at h
    exact ⟨i, rfl, h.1, h.2.1, h.2.2⟩
/-- The cells of one suspect. -/
def cel (S : Nat → Int) (gr : Nat) (x : Nat × Nat) : List Value := [.int .i64 (S x.1), .int .u64 0, .slice (some ⟨gr, x.1 * 3, none⟩) (x.2 - x.1) (x.2 - x.1)]

theorem flat_get (S : Nat → Int) (gr : Nat) : ∀ (xs : List (Nat × Nat)) (i k : Nat) (x : Nat × Nat), xs[i]? = some x → k < 3 → (xs.flatMap (cel S gr))[i * 3 + k]? = (cel S gr x)[k]?
  | [], i, k, x, h, _ => by simp at h
  | y :: ys, 0, k, x, h, hk => by
    simp only [List.getElem?_cons_zero, Option.some.injEq] at h
    subst h
    rw [List.flatMap_cons, Nat.zero_mul, Nat.zero_add, List.getElem?_append_left (by simpa [cel] using hk)]
  | y :: ys, i + 1, k, x, h, hk => by
    rw [List.getElem?_cons_succ] at h
    have := flat_get S gr ys i k x h hk
    rw [List.flatMap_cons, List.getElem?_append_right (by simp [cel]; omega), ← this]
    congr 1
    simp [cel]
    omega
/-- The row of suspects, as the sort wants it. -/
theorem own_sus {w : World} {B g cap gr : Nat} {S : Nat → Int} {xs : List (Nat × Nat)} (h : w.ownsRow B 48 3 (.slice (some ⟨g, 0, none⟩) xs.length cap) xs.length (xs.flatMap (cel S gr))) :
    Sus w g xs.length (fun j => S (xs.getD j (0, 0)).1) (fun j => some ⟨gr, (xs.getD j (0, 0)).1 * 3, none⟩) (fun j => (xs.getD j (0, 0)).2 - (xs.getD j (0, 0)).1) (fun j => (xs.getD j (0, 0)).2 - (xs.getD j (0, 0)).1) := by
  refine ⟨(h.lt g rfl).2, fun j hj k u hu => ?_⟩
  have hk : k < 3 := by have := (List.getElem?_eq_some_iff.1 hu).1; simpa [sus] using this
  rw [h.cellAt (j * 3 + k) (by omega), flat_get S gr xs j k _ (List.getElem?_eq_getElem hj) hk]
  have e : xs.getD j (0, 0) = xs[j] := by simp [List.getElem?_eq_getElem hj]
  rw [← hu]
  simp only [e, sus, cel]

set_option maxRecDepth 100000 in
set_option maxHeartbeats 4000000 in
theorem suspects_any (gu gs gr N : Nat) (S : Nat → Int) (v : Int) (hN : N ≤ 1048576) (w : World) (u0 : w.cell? ⟨gu, 0, none⟩ = some (.pointer (some ⟨gs, 0, none⟩))) (u1 : w.cell? ⟨gu, 1, none⟩ = some (.int .i64 v))
    (s0 : w.cell? ⟨gs, 0, none⟩ = some (.pointer none)) (s5 : w.cell? ⟨gs, 5, none⟩ = some (.bool false)) (hr : ∀ j, j < N → w.cell? ⟨gr, j * 3, none⟩ = some (.int .i64 (S j))) :
    Calls Yba.prog 4 #[.pointer (some ⟨gu, 0, none⟩), .slice (some ⟨gr, 0, none⟩) N N] w fun e w' => ∃ gv xs, e = .returned gv ∧ Below w.heap.size w w' ∧ Runs S v N N xs ∧ w'.ownsRow w.heap.size 48 3 gv xs.length (xs.flatMap (cel S gr)) ∧ (xs = [] → gv = .slice none 0 0) := by
  have HR : Hid _ := hr
  clear hr
  have bu := World.block_lt_of_cell? w _ u0
  have bs := World.block_lt_of_cell? w _ s0
  go_enter Yba.func4, Yba.ntmps4
  go_wp2_with fail
  go_loopg [6, 7, 8, 9, 10] N (fun k sv sk _ _ _ wr => ∃ (j : Nat) (xs : List (Nat × Nat)), j ≤ N ∧ k = N - j ∧ sk = .int .i64 j ∧ Hid ((j = N ∨ Bnd S j) ∧ Runs S v N j xs) ∧ Hid (Below w.heap.size w wr) ∧ Hid (wr.ownsRow w.heap.size 48 3 sv xs.length (xs.flatMap (cel S gr)) ∧ (xs = [] → sv = .slice none 0 0)))
  case atStart => exact ⟨0, [], Nat.zero_le _, rfl, rfl, ⟨.inr (.inl rfl), Runs.zero⟩, Below.refl _ _, World.ownsRow_nil _ _ _ _, fun _ => rfl⟩
  case round =>
    obtain ⟨j, xs, hj, rfl, rfl, HG, HB, HO⟩ := hrel
    by_cases hlt : j < N
    · have hlt' : (j : Int) < (N : Int) := by omega
      have RC : Hid (∀ i, i < N → wr.cell? ⟨gr, i * 3, none⟩ = some (.int .i64 (S i))) := fun i hi => (HB.out.cell (p := ⟨gr, i * 3, none⟩) (World.block_lt_of_cell? w _ (HR.out i hi))).trans (HR.out i hi)
      have c0 := RC.out j hlt
      go_upto_block 2 with fail
      clear c0
      go_cut [7] from 28 to 42 (fun s wx => ∃ e : Nat, j < e ∧ e ≤ N ∧ Hid (Eor S N j e) ∧ s = .int .i64 e ∧ Hid (Below w.heap.size w wx) ∧ Hid (wx.ownsRow w.heap.size 48 3 u6 xs.length (xs.flatMap (cel S gr)) ∧ (xs = [] → u6 = .slice none 0 0)))
      case first =>
        clear RC
        go_wp2_with fail
        go_loopg [7] (N - j) (fun k s wx => ∃ i : Nat, j ≤ i ∧ i ≤ N ∧ k = N - i ∧ s = .int .i64 i ∧ Hid (∀ t, j ≤ t → t < i → S t = S j) ∧ Hid (Below w.heap.size w wx) ∧ Hid (wx.ownsRow w.heap.size 48 3 u6 xs.length (xs.flatMap (cel S gr)) ∧ (xs = [] → u6 = .slice none 0 0)))
        case atStart => exact ⟨j, Nat.le_refl _, hj, rfl, rfl, fun t h1 h2 => by omega, HB, HO⟩
        case round =>
          clear HB HO
          obtain ⟨i, hi1, hi2, rfl, rfl, HI, HB, HO⟩ := hrel
          by_cases hiN : i < N
          · have hiN' : (i : Int) < (N : Int) := by omega
            have c1 : wr.cell? ⟨gr, i * 3, none⟩ = some (.int .i64 (S i)) := (HB.out.cell (p := ⟨gr, i * 3, none⟩) (World.block_lt_of_cell? w _ (HR.out i hiN))).trans (HR.out i hiN)
            by_cases e : S i = S j
            · have HI2 : Hid (∀ t, j ≤ t → t < i + 1 → S t = S j) := fun t h1 h2 => by
                rcases Nat.lt_succ_iff_lt_or_eq.1 h2 with h | h
                · exact HI.out t h1 h
                · rw [h]; exact e
              rw [e] at c1
              clear e
              go_wp2_with fail
              go_roundg (N - (i + 1))
              case measure => omega
              case rel => exact ⟨i + 1, by omega, by omega, rfl, by go_num, HI2, HB, HO⟩
            · have HE : Hid (Eor S N j i) := ⟨by rcases Nat.lt_or_ge j i with h | h; · exact h
                                                 · obtain rfl : i = j := by omega
                                                   exact absurd rfl e, hi2, HI.out, .inr e⟩
              have hji : j < i := HE.out.1
              generalize S i = si at c1 e
              go_wp2_with fail
              go_meet
              exact ⟨i, hji, hi2, HE, rfl, HB, HO⟩
          · have hiN' : ¬ (i : Int) < (N : Int) := by omega
            have HE : Hid (Eor S N j i) := ⟨by omega, hi2, HI.out, .inl (by omega)⟩
            have hji : j < i := by omega
            go_wp2_with fail
            go_meet
            exact ⟨i, hji, hi2, HE, rfl, HB, HO⟩
      case rest =>
        clear HB HO RC
        obtain ⟨e, hje, heN, HE, rfl, HB, HO⟩ := hcut
        have v1 := (HB.out.cell (p := ⟨gu, 1, none⟩) bu).trans u1
        by_cases hv : S j = v
        · have HG2 : Hid ((e = N ∨ Bnd S e) ∧ Runs S v N e xs) := by
            obtain ⟨h1, h2⟩ := HG.out
            refine ⟨?_, h2.skip (h1.elim (fun h => absurd h (by omega)) id) HE.out hv⟩
            by_cases h : e = N
            · exact .inl h
            · exact .inr (HE.out.bnd h)
          rw [hv]
          go_wp2_with fail
          go_roundg (N - e)
          case measure => omega
          case rel => exact ⟨e, xs, heN, rfl, rfl, HG2, HB, HO⟩
        · generalize hsj : S j = sj at hv ⊢
          have w0 := (HB.out.cell (p := ⟨gu, 0, none⟩) bu).trans u0
          have w5 := (HB.out.cell (p := ⟨gs, 5, none⟩) bs).trans s5
          have hje' : (j : Int) ≤ (e : Int) := by omega
          have heN' : (e : Int) ≤ (N : Int) := by omega
          go_upto_region 10 with fail
          clear v1 w0 w5
          have bA : Below wc.heap.size wc (wc.alloc (.cells #[.int .i64 sj, .int .u64 0, .slice (some ⟨gr, j * 3, none⟩) (e - j) (e - j)] 48)) := (Below.refl _ _).alloc (Nat.le_refl _) _
          have nb := al_new wc (.cells #[.int .i64 sj, .int .u64 0, .slice (some ⟨gr, j * 3, none⟩) (e - j) (e - j)] 48) _ rfl
          replace HB : Hid _ := below_more HB.out (Nat.le_refl _) bA
          have HO2 := And.intro (own_below HO.out.1 bA) HO.out.2
          replace HO : Hid _ := HO2
          clear HO2
          generalize hg1 : wc.heap.size = g1 at nb ⊢
          generalize (wc.alloc (.cells #[.int .i64 sj, .int .u64 0, .slice (some ⟨gr, j * 3, none⟩) (e - j) (e - j)] 48)) = wd at nb HB HO ⊢
          clear bA hg1
          clear wc
          have w0 := (HB.out.cell (p := ⟨gu, 0, none⟩) bu).trans u0
          have w5 := (HB.out.cell (p := ⟨gs, 5, none⟩) bs).trans s5
          have n0 : wd.cell? ⟨g1, 0, none⟩ = some (.int .i64 sj) := (cell_of_row _ _ _ _ _ _ nb).trans rfl
          have n1 : wd.cell? ⟨g1, 1, none⟩ = some (.int .u64 0) := (cell_of_row _ _ _ _ _ _ nb).trans rfl
          have n2 : wd.cell? ⟨g1, 2, none⟩ = some (.slice (some ⟨gr, j * 3, none⟩) (e - j) (e - j)) := (cell_of_row _ _ _ _ _ _ nb).trans rfl
          obtain ⟨i48, hi, hz0, hz1, hz2⟩ := info48p
          have hxl : xs.length ≤ 1048576 := by have h1 := HG.out.2.1; have h2 := cnt_id (S := S) (v := v) j; omega
          have hBw : w.heap.size ≤ wd.heap.size := HB.out.size
          have OW := own_below HO.out.1 ((Below.refl wd.heap.size wd).alloc (Nat.le_refl _) (.cells #[.int .i64 sj, .int .u64 0, .slice (some ⟨gr, j * 3, none⟩) (e - j) (e - j)] 48))
          have HW : Hid _ := OW
          clear OW
          go_wp2_with (at_builtin; refine wpList_append_lies _ rfl _ _ 45 rfl w.heap.size 48 i48 (.agg #[.int .i64 0, .int .u64 0, .slice none 0 0]) 3 40 Yba.underlying45 hi hz0 hz1 hz2 rfl (by decide) u6 xs.length (xs.flatMap (cel S gr)) rfl HW.out ⟨wd.heap.size, 0, none⟩ 1 1 [.int .i64 sj, .int .u64 0, .slice (some ⟨gr, j * 3, none⟩) (e - j) (e - j)] rfl rfl (World.news_of_block (heap_alloc_new _ _)) (by intro u hu; simp at hu; rcases hu with rfl | rfl | rfl <;> rfl) (by decide) (by unfold maxLen; omega) (by omega) (by simp; omega) (wd.heap.size + 1) (by simp) ?_; intro g3 c3 w8 hr8 hg8 hl8 hlt8)
          have HB2 : Hid (Below w.heap.size w w8) := below_grown (below_more HB.out (Nat.le_refl _) ((Below.refl wd.heap.size wd).alloc (Nat.le_refl _) _)) (Nat.le_refl _) hg8 (fun x hx => (HO.out.1.lt x hx).1)
          have HG2 : Hid ((e = N ∨ Bnd S e) ∧ Runs S v N e (xs ++ [(j, e)])) := by
            obtain ⟨h1, h2⟩ := HG.out
            refine ⟨?_, h2.take (h1.elim (fun h => absurd h (by omega)) id) HE.out (by rw [hsj]; exact hv)⟩
            by_cases h : e = N
            · exact .inl h
            · exact .inr (HE.out.bnd h)
          have HO2 : Hid (w8.ownsRow w.heap.size 48 3 (.slice (some ⟨g3, 0, none⟩) (xs.length + 1) c3) (xs ++ [(j, e)]).length ((xs ++ [(j, e)]).flatMap (cel S gr)) ∧ (xs ++ [(j, e)] = [] → (.slice (some ⟨g3, 0, none⟩) (xs.length + 1) c3 : Value) = .slice none 0 0)) := by
            refine ⟨?_, fun h => by simp at h⟩
            rw [List.flatMap_append, List.length_append]
            have : ([(j, e)] : List (Nat × Nat)).flatMap (cel S gr) = [.int .i64 sj, .int .u64 0, .slice (some ⟨gr, j * 3, none⟩) (e - j) (e - j)] := by simp [cel, hsj]
            rw [this]
            exact hr8
          go_roundg (N - e)
          case measure => omega
          case rel => exact ⟨e, xs ++ [(j, e)], heN, rfl, rfl, HG2, HB2, HO2⟩
    · have hjN : j = N := by omega
      have hlt' : ¬ (j : Int) < (N : Int) := by omega
      have HR2 : Hid (Runs S v N N xs) := hjN ▸ HG.out.2
      have hxl : xs.length ≤ 1048576 := by have h1 := HG.out.2.1; have h2 := cnt_id (S := S) (v := v) j; omega
      clear HG hjN
      by_cases hxs : xs = []
      · have hu := HO.out.2 hxs
        subst hu
        have ST := stable_nil wr
        go_wp2_with (go_at_call 8; refine ST.mono ?_; rintro e w2 ⟨rfl, hb2⟩)
        go_ret
        exact ⟨_, xs, rfl, below_more HB.out (Nat.le_refl _) hb2, HR2.out, own_below HO.out.1 hb2, fun _ => rfl⟩
      · obtain ⟨g, cap, hu⟩ : ∃ g cap, u6 = .slice (some ⟨g, 0, none⟩) xs.length cap := by
          rcases HO.out.1.2 with ⟨h1, h2⟩ | ⟨g, cap, cur, h1, _⟩
          · exact absurd (List.eq_nil_of_length_eq_zero h2) hxs
          · exact ⟨g, cap, h1⟩
        subst hu
        have ST := stable_any g xs.length cap _ _ _ _ hxl wr (own_sus HO.out.1)
        go_wp2_with (go_at_call 8; refine ST.mono ?_; rintro e w2 ⟨rfl, hb2⟩)
        go_ret
        exact ⟨_, xs, rfl, below_more HB.out (Nat.le_refl _) hb2, HR2.out, own_below HO.out.1 hb2, fun h => absurd h hxs⟩
end Go.Proofs.Ybulkdwxq

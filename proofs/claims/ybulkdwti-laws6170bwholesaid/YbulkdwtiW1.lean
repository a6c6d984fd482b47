import Derived.Test.YbulkdwtiAft
import Derived.Test.YbulkdwtiEq
import Derived.OpenShut
import Derived.Laws.CopyOwn
import Derived.Deep.AppendLies
namespace Go.Proofs.Ybulkdwti
open Go.RowKit Go.Maps

/-- WHAT THE WALK IS TOLD OF A SLICE OF INTEGERS THAT CAME IN (the shell's word). -/
def IsRow (k : IntKind) (w : World) (a : Option Addr) (len cap : Nat) (zs : List Int) : Prop :=
  (a = none ∧ len = 0 ∧ cap = 0 ∧ zs = []) ∨
  ∃ x, a = some x ∧ len ≤ cap ∧ cap ≤ maxLen ∧ zs.length = cap ∧ (∀ i, i < zs.length → w.cell? (x.add i) = some (.int k (zs.getD i 0))) ∧ ∀ n ∈ zs, (Lit.int k n).wf = true

theorem size3 (w : World) : (sizeOf 3).run Yba.prog w = .ok 1 w := by kernel_rfl

/-- ITS INDEX: the address, the number that lies there. -/
theorem IsRow.at {w : World} {a : Option Addr} {len cap : Nat} {zs : List Int} (h : IsRow .i64 w a len cap zs) {k : Nat} (hk : k < len) :
    ∃ b o, a = some ⟨b, o, none⟩ ∧ (∀ wx, (Instr.indexAt 22 (.slice a len cap) (.int .i64 (k : Int))).run Yba.prog wx = .ok (.pointer (some ⟨b, o + k, none⟩)) wx) ∧ b < w.heap.size ∧ w.cell? ⟨b, o + k, none⟩ = some (.int .i64 (zs.getD k 0)) ∧ (Lit.int .i64 (zs.getD k 0)).wf = true := by
  rcases h with ⟨_, h0, _, _⟩ | ⟨x, rfl, hl, hm, hz, hc, hw⟩
  · omega
  · have hk' : k < zs.length := by omega
    obtain ⟨b, o, rfl, hcell⟩ := ints_at hc (by omega)
    have hcell := hcell k hk'
    refine ⟨b, o, rfl, ?_, World.block_lt_of_cell? w _ hcell, hcell, ?_⟩
    · intro wx
      have he : Yba.prog.elem 22 = 3 := by kernel_rfl
      rw [run_indexAt_slice wx 22 _ _ _ _ _ (by rw [he]; exact Yba.underlying22), he, if_pos ⟨by omega, by omega⟩, size3]
      simp [Result.andThen, WideShapes.add_plain]
    · simp [List.getElem?_eq_getElem hk']
      exact hw _ (List.getElem_mem hk')

theorem IsRow.take_length {w : World} {a : Option Addr} {len cap : Nat} {zs : List Int} (h : IsRow .i64 w a len cap zs) : ((zs.take len).map (Value.int .i64)).length = len := by
  rcases h with ⟨_, h0, _, h1⟩ | ⟨x, rfl, hl, hm, hz, hc, hw⟩
  · simp [h0]
  · simp; omega

theorem IsRow.src {w wx : World} {a : Option Addr} {len cap : Nat} {zs : List Int} (h : IsRow .i64 w a len cap zs) (hb : Below w.heap.size w wx) {cs : List Value} (hcs : cs = (zs.take len).map (Value.int .i64)) :
    0 < cs.length → ∃ ad, a = some ad ∧ ∀ j v, cs[j]? = some v → wx.cell? (ad.add j) = some v := by
  intro hp
  rcases h with ⟨_, h0, _, h1⟩ | ⟨x, rfl, hl, hm, hz, hc, hw⟩
  · simp [hcs, h0] at hp
  · refine ⟨x, rfl, fun j v hj => ?_⟩
    have hjl : j < len ∧ j < zs.length := by
      have := (List.getElem?_eq_some_iff.1 hj).1
      rw [hcs] at this
      simp at this
      omega
    have hc' := hc j hjl.2
    rw [hb.cell (World.block_lt_of_cell? w _ hc'), hc']
    rw [hcs] at hj
    simp [List.getElem?_map, hjl.1, List.getElem?_eq_getElem hjl.2] at hj
    simp [List.getElem?_eq_getElem hjl.2, hj]

theorem row_exact {w : World} {base : Nat} {e : TypeId} {size n g : Nat} {xs : List Value} (h : w.ownsRow base e size (.slice (some ⟨g, 0, none⟩) n n) n xs) : w.heap[g]? = some (.cells xs.toArray e (0, 0)) := by
  rcases h.2 with ⟨h0, _⟩ | ⟨g1, c1, cur1, hv1, _, hg1, _, _, hs, ht⟩
  · cases h0
  · cases hv1
    have : cur1 = xs.toArray := by
      apply Array.toList_inj.1
      rw [← ht, List.take_of_length_le (by simp [hs])]
    rw [hg1, this]

theorem row_of {w : World} {base : Nat} {e : TypeId} {n g : Nat} {xs : List Value} (h : w.heap[g]? = some (.cells xs.toArray e (0, 0))) (hb : base ≤ g) (hl : xs.length = n) (hn : n ≤ maxLen) : w.ownsRow base e 1 (.slice (some ⟨g, 0, none⟩) n n) n xs :=
  ⟨by simpa using hl, .inr ⟨g, n, _, rfl, hb, h, Nat.le_refl _, hn, by simpa using hl, by simp [← hl]⟩⟩

theorem splice_all {α : Type} (Z cs : List α) (h : cs.length = Z.length) : splice Z 0 cs = cs := by simp [splice, h]

/-- slices.Equal of a row of the call's own and the slice that came in, the same numbers in both. -/
theorem equal_any {w0 w : World} {a : Option Addr} {n cap g c : Nat} {zs : List Int} (h : IsRow .i64 w0 a n cap zs) (hb : Below w0.heap.size w0 w) (hn : n ≤ 65536) (hg : ∀ j, j < n → w.cell? ⟨g, 0 + j, none⟩ = some (.int .i64 (zs.getD j 0))) :
    Calls Yba.prog 10 #[.slice (some ⟨g, 0, none⟩) n c, .slice a n cap] w fun e w' => e = .returned (.bool true) ∧ ∃ nq, w' = w.drewN nq := by
  by_cases h0 : n = 0
  · subst h0
    exact equal_none _ _ _ _ w
  · have hat := fun k hk => h.at (k := k) hk
    obtain ⟨b, o, rfl, _⟩ := hat 0 (by omega)
    refine equal_some g 0 c b o cap n zs w hn hg (fun j hj => ?_)
    obtain ⟨b', o', e, _, hlt, hc, _⟩ := hat j hj
    cases e
    exact (hb.cell hlt).trans hc

theorem take_getD (zs : List Int) {n j : Nat} (h : j < n) : (zs.take n).getD j 0 = zs.getD j 0 := by simp [h]

theorem snoc_row {w : World} {B g n c : Nat} {zs : List Int} {x : Int} (h : w.ownsRow B 3 1 (.slice (some ⟨g, 0, none⟩) (n + 1) c) (n + 1) ((zs.take n ++ [x]).map (.int .i64))) :
    (∀ j, j < n → w.cell? ⟨g, 0 + j, none⟩ = some (.int .i64 (zs.getD j 0))) ∧ w.cell? ⟨g, n, none⟩ = some (.int .i64 x) ∧ n + 1 ≤ c := by
  have hrl := h.1
  simp at hrl
  refine ⟨fun j hj => ?_, ?_, ?_⟩
  · rw [Nat.zero_add, h.cellAt j (by omega), List.getElem?_map, List.getElem?_append_left (by simp; omega)]
    simp [hj, List.getElem?_eq_getElem (show j < zs.length by omega)]
  · rw [h.cellAt n (by omega), List.getElem?_map, List.getElem?_append_right (by simp; omega)]
    simp [show min n zs.length = n by omega]
  · rcases h.2 with ⟨h0, _⟩ | ⟨g1', c1', cur1, hv1, _, hg1, hc, _⟩
    · cases h0
    · cases hv1; exact hc

theorem start (w : World) : St (((((w.alloc (.cells #[] 3)).alloc (.cells #[] 37)).alloc (.cells #[] 39)).alloc (.map #[] 0)).alloc (.map #[] 0)) w.heap.size (w.heap.size + 1 + 1 + 1) (w.heap.size + 1 + 1 + 1 + 1) w.heap.size (w.heap.size + 1) (w.heap.size + 1 + 1) 0 0 0 [] [] [] := by
  have T := fun (w : World) (o : Obj) => (Turn.refl (fun _ => False) w).alloc o
  refine ⟨rfl, rfl, by simp, by omega, by omega, by omega, ?_, ?_, ?_, ?_, ?_, by simp⟩
  · have := (MapIs.made (((w.alloc (.cells #[] 3)).alloc (.cells #[] 37)).alloc (.cells #[] 39)) (.int .i64 0)).turn (T _ (.map #[] 0)) (by simp)
    simpa [nums] using this
  · have := MapIs.made ((((w.alloc (.cells #[] 3)).alloc (.cells #[] 37)).alloc (.cells #[] 39)).alloc (.map #[] 0)) (.pointer none)
    simpa using this
  · exact ((((World.ownsRow_lit (base := w.heap.size) (e := 3) (size := 1) w #[] 0 (Nat.le_refl _) (by decide) rfl).alloc _).alloc _).alloc _).alloc _
  · have := (((World.ownsRow_lit (base := w.heap.size) (e := 37) (size := 1) (w.alloc (.cells #[] 3)) #[] 0 (by simp) (by decide) rfl).alloc (.cells #[] 39)).alloc (.map #[] 0)).alloc (.map #[] 0)
    simpa using this
  · have := ((World.ownsRow_lit (base := w.heap.size) (e := 39) (size := 3) ((w.alloc (.cells #[] 3)).alloc (.cells #[] 37)) #[] 0 (by simp; omega) (by decide) rfl).alloc (.map #[] 0)).alloc (.map #[] 0)
    simpa using this

set_option maxRecDepth 100000 in
set_option maxHeartbeats 400000 in
theorem walk_small (a0 : Option Addr) (len0 cap0 : Nat) (z0 : List Int) (a1 : Option Addr) (len1 cap1 : Nat) (z1 : List Int) (a2 : Bool) (a3 : Int) (a4 : Int) (w : World) (w0 : IsRow .i64 w a0 len0 cap0 z0) (w1 : IsRow .i64 w a1 len1 cap1 z1) (w3 : (Lit.int .i64 a3).wf = true)
    (hle : len0 + len1 ≤ 65536) :
    Calls Yba.prog 4 #[.slice a0 len0 cap0, .slice a1 len1 cap1, .bool a2, .int .i64 a3, .int .i64 a4] w fun e w' => e = .returned (.bool true) ∧ Below w.heap.size w w' := by
  have hmm := @run_makeMap Yba.prog
  go_enter Yba.func4, Yba.ntmps4
  go_wp2
  go_loopw [11, 12, 13, 44] (fun s1 s2 s3 i wr => ∃ k : Nat, k ≤ len1 ∧ i = .int .i64 k ∧ ∃ g1 g2 g3 c1 c2 c3 K J Ps, s1 = .slice (some ⟨g1, 0, none⟩) K.length c1 ∧ s2 = .slice (some ⟨g2, 0, none⟩) K.length c2 ∧ s3 = .slice (some ⟨g3, 0, none⟩) K.length c3 ∧ K.length ≤ k ∧
      St wr w.heap.size (w.heap.size + 1 + 1 + 1) (w.heap.size + 1 + 1 + 1 + 1) g1 g2 g3 c1 c2 c3 K J Ps ∧ Below w.heap.size w wr)
    (fun _ _ _ i _ => len1 - (intOf i).toNat)
  case atStart =>
    exact ⟨0, Nat.zero_le _, rfl, _, _, _, _, _, _, [], [], [], rfl, rfl, rfl, Nat.le_refl _, start w, (((((Below.refl _ _).alloc (Nat.le_refl _) _).alloc (by simp) _).alloc (by simp; omega) _).alloc (by simp; omega) _).alloc (by simp; omega) _⟩
  case round =>
    obtain ⟨k, hk, rfl, g1, g2, g3, c1, c2, c3, K, J, Ps, rfl, rfl, rfl, hK, hst, hbel⟩ := hrel
    by_cases hlt : k < len1
    · obtain ⟨b, o, -, hix, hb, hcell, wx⟩ := w1.at hlt
      have hcw := (hbel.cell (p := ⟨b, o + k, none⟩) hb).trans hcell
      have hix := hix wr
      clear hcell
      generalize z1.getD k 0 = x at *
      by_cases hx : x ∈ K
      · obtain ⟨i, hi, he⟩ := List.mem_iff_getElem.1 hx
        have he : K.getD i 0 = x := by simp [List.getElem?_eq_getElem hi, he]
        have hl := hst.idx.look_yes Yba.underlying34 (zero3 wr) hi (by rw [he]; exact wx)
        rw [he, show (nums K.length).getD i undef = .int .i64 i by simp [nums, List.getElem?_range hi]] at hl
        clear he
        go_wp2
        go_roundw
        case rel => exact ⟨k + 1, by omega, by go_num, g1, g2, g3, c1, c2, c3, K, J, Ps, rfl, rfl, rfl, by omega, hst, hbel⟩
        case measure => simp [intOf]; omega
      · have hl := hst.idx.look_no Yba.underlying34 (zero3 wr) wx hx
        obtain ⟨i3, hi3, z30, z31, z32⟩ := info_parts Yba.info3
        obtain ⟨i7, hi7, z70, z71, z72⟩ := info_parts Yba.info37
        obtain ⟨i9, hi9, z90, z91, z92⟩ := info_parts Yba.info39
        have hBw : w.heap.size ≤ wr.heap.size := hbel.size
        have T1 := (Turn.refl (fun _ => False) wr).alloc (.cells #[.int .i64 ((k : Int) + 1), .string ⟨#[]⟩, .int .i64 (k : Int)] 39)
        have A1 : Hid _ := hst.apart
        go_wp2_with (first
          | (at_mapUpdate; refine wpList_put_new _ rfl _ _ _ 34 3 rfl Yba.underlying34 (w.heap.size + 1 + 1 + 1) K (nums K.length) (.int .i64 0) rfl (hst.idx.turn T1 (by simp)) (by simp [nums]) (by omega) x (.int .i64 K.length) rfl rfl wx hx ?_; intro w2 hm2 hg2)
          | (at_builtin; refine wpList_append_lies _ rfl _ _ 22 rfl w.heap.size 3 i3 (.int .i64 0) 1 8 Yba.underlying22 hi3 z30 z31 z32 rfl (by decide) (.slice (some ⟨g1, 0, none⟩) K.length c1) K.length (K.map (.int .i64)) rfl (hst.r1_at hg2 _) ⟨w2.heap.size, 0, none⟩ 1 1 [.int .i64 x] rfl rfl (cell_one_new _ _ _) (ints_oneCell .i64 [x]) (by decide) (by unfold maxLen; omega) (by omega) (by have := hg2.size; simp at this ⊢; omega) (w2.heap.size + 1) (by simp) ?_; intro g1' c1' w4 hr4 hg4 hl4 hlt4)
          | (at_builtin; refine wpList_append_lies _ rfl _ _ 32 rfl w.heap.size 37 i7 (.pointer none) 1 8 Yba.underlying32 hi7 z70 z71 z72 rfl (by decide) (.slice (some ⟨g2, 0, none⟩) K.length c2) K.length (Ps.map ptr) rfl (hst.r2_at hg2 hg4 _) ⟨w4.heap.size, 0, none⟩ 1 1 [ptr wr.heap.size] rfl rfl (cell_one_new _ _ _) (by intro u hu; simp at hu; subst hu; rfl) (by decide) (by unfold maxLen; omega) (by omega) (by have := hg2.size; have := hg4.size; simp at *; omega) (w4.heap.size + 1) (by simp) ?_; intro g2' c2' w6 hr6 hg6 hl6 hlt6; have q0 := hst.new_at hg2 hg4 hg6 0; have q1 := hst.new_at hg2 hg4 hg6 1; have q2 := hst.new_at hg2 hg4 hg6 2)
          | (at_builtin; refine wpList_append_lies _ rfl _ _ 33 rfl w.heap.size 39 i9 (.agg #[.int .i64 0, .string ⟨#[]⟩, .int .i64 0]) 3 32 Yba.underlying33 hi9 z90 z91 z92 rfl (by decide) (.slice (some ⟨g3, 0, none⟩) K.length c3) K.length (J.flatMap inst3) rfl (hst.r3_at hg2 hg4 hg6 _) ⟨w6.heap.size, 0, none⟩ 1 1 (inst3 k) rfl rfl (World.news_of_block (heap_alloc_new _ _)) (by intro u hu; simp [inst3] at hu; rcases hu with rfl | rfl | rfl <;> rfl) (by decide) (by unfold maxLen; omega) (by omega) (by have := hg2.size; have := hg4.size; have := hg6.size; simp at *; omega) (w6.heap.size + 1) (by simp) ?_; intro g3' c3' w8 hr8 hg8 hl8 hlt8)
          | (at_mapUpdate; refine wpList_put_new _ rfl _ _ _ 35 37 rfl Yba.underlying35 (w.heap.size + 1 + 1 + 1 + 1) K (Ps.map ptr) (.pointer none) rfl (hst.inst_at hg2 hg4 hg6 hg8) (by simp [hst.hP]) (by omega) x (ptr wr.heap.size) rfl rfl wx hx ?_; intro w9 hm9 hg9)
          | go_in)
        rw [← nums_succ] at hm2
        have R := hst.step (k := k) hBw hx wx hm2 hg2 hr4 hg4 (by simpa [Value.ownBlock] using hl4) hr6 hg6 (by simpa [Value.ownBlock] using hl6) hr8 hg8 (by simpa [Value.ownBlock] using hl8) hm9 hg9
        go_roundw
        case rel => exact ⟨k + 1, by omega, by go_num, g1', g2', g3', c1', c2', c3', K ++ [x], J ++ [k], Ps ++ [wr.heap.size], by simp, by simp, by simp, by simp; omega, R.1, hbel.trans R.2⟩
        case measure => simp [intOf]; omega
    · clear w1
      obtain ⟨i3, hi3, z30, z31, z32⟩ := info_parts Yba.info3
      have hBw : w.heap.size ≤ wr.heap.size := hbel.size
      obtain ⟨cs, hcs⟩ : ∃ cs, cs = (z0.take len0).map (Value.int .i64) := ⟨_, rfl⟩
      obtain ⟨Zs, hZs⟩ : ∃ Zs, Zs = (madeCells (Value.int .i64 0).cells (len0 * 1)).toList := ⟨_, rfl⟩
      have HC : Hid (cs = (z0.take len0).map (Value.int .i64)) := hcs
      have HZ : Hid (Zs = (madeCells (Value.int .i64 0).cells (len0 * 1)).toList) := hZs
      have hcl : cs.length = len0 := by rw [hcs]; exact w0.take_length
      have hZl : Zs.length = len0 := by rw [hZs]; simp [size_madeCells]
      have SRC := fun (wx : World) (hb : Below w.heap.size w wx) => w0.src hb hcs
      have hc1 : ∀ v ∈ cs, v.oneCell' = true := by rw [hcs]; exact ints_oneCell _ _
      clear hcs hZs
      go_wp2_with (first
        | (at_make; refine wpList_make_full _ rfl _ _ 22 rfl w.heap.size 3 i3 (.int .i64 0) 1 Yba.underlying22 hi3 z30 z31 .i64 .i64 _ _ len0 rfl rfl rfl rfl (by rw [z32]; omega) (by unfold maxLen; omega) hBw ?_; intro w5 hr5 hg5)
        | (refine wpList_copy_splice rfl (.tmp 86) (.tmp 87) 22 22 rfl 3 Yba.underlying22 (by rw [hi3]; simp [z31]) (some ⟨wr.heap.size, 0, none⟩) a0 len0 len0 len0 cap0 rfl rfl wr.heap.size 0 Zs 3 ?h1 cs ?h2 ?h3 ?h4 hc1 wr.heap.size w5 (Below.refl _ _) (Nat.le_refl _) ?_)
        | go_in)
      case h1 => rw [HZ.out]; exact row_exact hr5
      case h2 => simp [hcl]
      case h3 => intro h; exact SRC w5 (hbel.trans ((Below.refl _ _).grown hg5 hBw (by simp))) (by omega)
      case h4 => omega
      intro w6 hG6 hb6
      have T6 : Turn (fun _ => False) wr w6 := ⟨hb6.os.trans hg5.os, hb6.tape.trans hg5.tape, hb6.output.trans hg5.output, Nat.le_trans hg5.size hb6.size, fun k hk _ => (hb6.block k hk).trans (hg5.block k hk (by simp))⟩
      have hr6 : w6.ownsRow w.heap.size 3 1 (.slice (some ⟨wr.heap.size, 0, none⟩) len0 len0) len0 ((z0.take len0).map (.int .i64)) := by
        have e := hG6.out
        rw [splice_all _ _ (by omega), HC.out] at e
        exact row_of e hBw (by rw [← HC.out]; exact hcl) (by unfold maxLen; omega)
      have hz6 : wr.heap.size < w6.heap.size := (row_ge hr6).2
      clear hG6 hr5 hg5 hb6 SRC HZ hc1
      go_wp2_with fail
      refine (named_any (w0 := wr) (g := wr.heap.size) (c := len0) (len := len0) (u := a2) (zs := z0.take len0) hst (T6.alloc _) (Nat.le_of_lt hz6) (Nat.le_refl _) (by omega) hBw w3 (by omega) (by omega) (by simp) (by simp) (by simp) (by simp) (by simp) (hr6.alloc _)).mono ?_
      rintro e w7 ⟨p, rfl, hb7, hrd, hd⟩
      have hL : ∀ t, t < K.length → ∀ nq, (Instr.lookup 35 (.map (some (w.heap.size + 1 + 1 + 1 + 1))) (.int .i64 (K.getD t 0)) false).run Yba.prog (w7.drewN nq) = .ok (.pointer (some ⟨Ps.getD t 0, 0, none⟩)) (w7.drewN nq) := by
        intro t ht nq
        rcases hd with ⟨i, hd⟩ | ⟨g', c', hd⟩
        · exact look_inst (E := []) (vs := []) (by simpa using hd.inst.turn ((Turn.refl (fun _ => False) _).drewN nq) (by simp)) hrd.hP hrd.wf ht
        · exact look_inst (hd.inst.turn ((Turn.refl (fun _ => False) _).drewN nq) (by simp)) hrd.hP hrd.wf ht
      have h17 : w7.cell? ⟨w6.heap.size, 17, none⟩ = some (.map (some (w.heap.size + 1 + 1 + 1 + 1))) := by
        rcases hd with ⟨i, hd⟩ | ⟨g', c', hd⟩
        · exact hd.c17
        · exact hd.c17
      have hbw7 : Below w.heap.size w w7 := hbel.trans ((T6.alloc _).below hBw (by simp) |>.trans hb7)
      have HL : Hid _ := hL
      clear hL
      clear hst hbel hb7 hr6 T6 HC hcl hZl
      go_wp2_with fail
      go_loopw [102] (fun i wx => ∃ t : Nat, t ≤ K.length ∧ i = .int .i64 t ∧ ∃ nq, wx = w7.drewN nq) (fun i _ => K.length - (intOf i).toNat)
      case atStart => exact ⟨0, Nat.zero_le _, rfl, 0, rfl⟩
      case round =>
        obtain ⟨t, ht, rfl, nq, rfl⟩ := hrel
        by_cases hlt : t < K.length
        · have q1 := hrd.key hlt
          have q2 := hrd.ptr hlt
          have q30 : w7.cell? ⟨g3, t * 3, none⟩ = _ := hrd.val hlt 0 (by decide)
          have q31 := hrd.val hlt 1 (by decide)
          have q32 : w7.cell? ⟨g3, t * 3 + 1 + 1, none⟩ = _ := hrd.val hlt 2 (by decide)
          have q40 := hrd.inst hlt 0
          have q41 := hrd.inst hlt 1
          have q42 := hrd.inst hlt 2
          have q6 := ptr_ne_same ⟨Ps.getD t 0, 0, none⟩
          have q5 := HL.out t hlt
          generalize K.getD t 0 = x at *
          generalize Ps.getD t 0 = y at *
          generalize J.getD t 0 = j at *
          simp only [inst3, List.getElem?_cons_zero, List.getElem?_cons_succ] at q30 q31 q32 q40 q41 q42
          clear hd HL hrd hbw7 w0
          go_wp2
          go_quiet (fail)
          go_wp2
          go_roundw
          case rel => exact ⟨t + 1, by omega, by go_num, _, rfl⟩
          case measure => simp [intOf]; omega
        · clear HL h17
          rcases hd with ⟨i, hd⟩ | ⟨g', c', hd⟩
          · have hP : i < Ps.length := by rw [hrd.hP]; exact hd.hi
            have l1 : ∀ nq, (Instr.lookup 34 (.map (some (w.heap.size + 1 + 1 + 1))) (.int .i64 a3) true).run Yba.prog (w7.drewN nq) = .ok (.tuple #[.int .i64 i, .bool true]) (w7.drewN nq) := by
              intro nq
              have := (hrd.idx.turn ((Turn.refl (fun _ => False) _).drewN nq) (by simp)).look_yes Yba.underlying34 (zero3 _) hd.hi (by rw [hd.hK]; exact w3)
              rw [hd.hK] at this
              rw [this]
              simp [nums, List.getElem?_range hd.hi]
            have l2 : ∀ ty nq, (Builtin.len_ #[35] ty #[.map (some (w.heap.size + 1 + 1 + 1 + 1))]).run Yba.prog (w7.drewN nq) = .ok (.int .i64 K.length) (w7.drewN nq) := fun ty nq => (hd.inst.turn ((Turn.refl (fun _ => False) _).drewN nq) (by simp)).len Yba.underlying35 ty
            have l3 := hrd.ptr hd.hi
            have l4 := ptr_eq_same ⟨p, 0, none⟩
            have hpp := hd.hp
            rw [← hpp] at l3
            have l5 := hd.c17
            have l6 := hd.c18
            have l7 := hd.c19
            have hi := hd.hi
            have l8 : ∀ j, j < len0 → w7.cell? ⟨wr.heap.size, 0 + j, none⟩ = some (.int .i64 (z0.getD j 0)) := by
              intro j hj
              have hl := hd.row.1
              rw [Nat.zero_add, hd.row.cellAt j (by omega)]
              simp at hl
              rw [← take_getD z0 hj]
              simp [hj, List.getElem?_eq_getElem (show j < z0.length by omega)]
            have L8 : Hid _ := l8
            clear hpp hd hrd l8
            go_wp2_with (first
              | (go_at_call 10; refine (equal_any (w := w7.drewN nq) w0 ⟨hbw7.os, hbw7.tape, hbw7.output, hbw7.size, hbw7.block⟩ (by omega) L8.out).mono ?_; rintro e w8 ⟨rfl, nq8, rfl⟩)
              | go_in)
            go_ret
            exact ⟨rfl, ⟨hbw7.os, hbw7.tape, hbw7.output, hbw7.size, hbw7.block⟩⟩
          · have DN : ∀ nq, Turn (fun _ => False) w7 (w7.drewN nq) := fun nq => (Turn.refl (fun _ => False) _).drewN nq
            have l1 : (Instr.lookup 34 (.map (some (w.heap.size + 1 + 1 + 1))) (.int .i64 a3) true).run Yba.prog (w7.drewN nq) = .ok (.tuple #[.int .i64 0, .bool false]) (w7.drewN nq) :=
              (hrd.idx.turn (DN nq) (by simp)).look_no Yba.underlying34 (zero3 _) w3 hd.hK
            have l2 : (Instr.lookup 35 (.map (some (w.heap.size + 1 + 1 + 1 + 1))) (.int .i64 a3) false).run Yba.prog (w7.drewN nq) = .ok (.pointer (some ⟨p, 0, none⟩)) (w7.drewN nq) := by
              have e : (K ++ [a3]).getD K.length 0 = a3 := by simp
              have := (hd.inst.turn (DN nq) (by simp)).look (i := K.length) Yba.underlying35 (zero37 _) (by simp) (by rw [e]; exact w3)
              rw [e] at this
              rw [this, ← hrd.hP]
              simp [ptr]
            have l3 : ∀ ty, (Builtin.len_ #[35] ty #[.map (some (w.heap.size + 1 + 1 + 1 + 1))]).run Yba.prog (w7.drewN nq) = .ok (.int .i64 ((K.length : Int) + 1)) (w7.drewN nq) := fun ty => by
              rw [(hd.inst.turn (DN nq) (by simp)).len Yba.underlying35 ty]; simp
            have l4 := ptr_ne_same ⟨p, 0, none⟩
            have l5 := hd.c17
            have l6 := hd.c18
            have l7 := hd.c19
            have n0 : w7.cell? ⟨p, 0, none⟩ = some (.int .i64 a4) := by rw [cell_of_row _ _ _ _ _ _ hd.new]; rfl
            have n1 : w7.cell? ⟨p, 1, none⟩ = some (.string ⟨#[]⟩) := by rw [cell_of_row _ _ _ _ _ _ hd.new]; rfl
            have n2 : w7.cell? ⟨p, 2, none⟩ = some (.int .i64 0) := by rw [cell_of_row _ _ _ _ _ _ hd.new]; rfl
            have HR := hd.row
            have HN : Hid _ := hd.new
            have HP : Hid _ := hd.hp
            clear DN
            go_wp2_with fail
            clear l1 l2 l3 l4 n0 n1 n2 l5
            go_loop [198] (fun i => ∃ t : Nat, t ≤ K.length ∧ i = .int .i64 t) (fun i => K.length - (intOf i).toNat)
            case atStart => exact ⟨0, Nat.zero_le _, rfl⟩
            case round =>
              obtain ⟨t, ht, rfl⟩ := hrel
              by_cases hlt : t < K.length
              · have q2 := hrd.ptr hlt
                have q3 := ptr_eq_other (w := w7.drewN nq) (a := ⟨Ps.getD t 0, 0, none⟩) (b := ⟨p, 0, none⟩) (by intro e; exact HP.out t hlt (by cases e; rfl)) (hrd.own t hlt) HN.out
                generalize Ps.getD t 0 = y at *
                clear hd HR HN HP hrd l6 l7
                go_wp2
                go_round
                case rel => exact ⟨t + 1, by omega, by go_num⟩
                case measure => simp [intOf]; omega
              · clear HP HN hd
                obtain ⟨l8, l9, hcap⟩ := snoc_row HR
                have L8 : Hid _ := l8
                clear l8 HR
                cases a2
                · by_cases h0 : len0 = 0
                  · have hd1 : decide ((0 : Int) < (len0 : Int)) = false := by simp [h0]
                    have hd2 : decide (0 < len0) = false := by simp [h0]
                    rw [hd2] at l7
                    simp only [Bool.false_and, Bool.or_false] at l7
                    have H0 : Hid (len0 = 0) := h0
                    clear h0
                    go_wp2_with (first
                      | (go_at_call 10; refine (equal_any (w := w7.drewN nq) w0 ⟨hbw7.os, hbw7.tape, hbw7.output, hbw7.size, hbw7.block⟩ (by omega) L8.out).mono ?_; rintro e w8 ⟨rfl, nq8, rfl⟩)
                      | go_in)
                    go_ret
                    exact ⟨rfl, ⟨hbw7.os, hbw7.tape, hbw7.output, hbw7.size, hbw7.block⟩⟩
                  · obtain ⟨b, o, -, hix, hb, hcell, -⟩ := w0.at (k := len0 - 1) (by omega)
                    have hix := hix (w7.drewN nq)
                    rw [show ((len0 - 1 : Nat) : Int) = (len0 : Int) - 1 by omega] at hix
                    have hcw := (hbw7.cell (p := ⟨b, o + (len0 - 1), none⟩) hb).trans hcell
                    have hd1 : (0 : Int) < (len0 : Int) := by omega
                    have hd2 : decide (0 < len0) = true := by simp; omega
                    rw [hd2, take_getD z0 (by omega)] at l7
                    simp only [Bool.true_and, Bool.false_or] at l7
                    generalize z0.getD (len0 - 1) 0 = q at *
                    clear hcell
                    go_wp2_with (first
                      | (go_at_call 10; refine (equal_any (w := w7.drewN nq) w0 ⟨hbw7.os, hbw7.tape, hbw7.output, hbw7.size, hbw7.block⟩ (by omega) L8.out).mono ?_; rintro e w8 ⟨rfl, nq8, rfl⟩)
                      | go_in)
                    go_ret
                    exact ⟨rfl, ⟨hbw7.os, hbw7.tape, hbw7.output, hbw7.size, hbw7.block⟩⟩
                · simp only [Bool.true_or] at l7
                  go_wp2_with (first
                    | (go_at_call 10; refine (equal_any (w := w7.drewN nq) w0 ⟨hbw7.os, hbw7.tape, hbw7.output, hbw7.size, hbw7.block⟩ (by omega) L8.out).mono ?_; rintro e w8 ⟨rfl, nq8, rfl⟩)
                    | go_in)
                  go_ret
                  exact ⟨rfl, ⟨hbw7.os, hbw7.tape, hbw7.output, hbw7.size, hbw7.block⟩⟩
set_option maxRecDepth 100000 in
set_option maxHeartbeats 400000 in
theorem walk_big (a0 : Option Addr) (len0 cap0 : Nat) (a1 : Option Addr) (len1 cap1 : Nat) (a2 : Bool) (a3 : Int) (a4 : Int) (w : World) (h0 : len0 ≤ 17592186044416) (h1 : len1 ≤ 17592186044416) (hle : 65536 < len0 + len1) :
    Calls Yba.prog 4 #[.slice a0 len0 cap0, .slice a1 len1 cap1, .bool a2, .int .i64 a3, .int .i64 a4] w fun e w' => e = .returned (.bool true) ∧ Below w.heap.size w w' := by
  go_enter Yba.func4, Yba.ntmps4
  go_wp2_with fail
  go_ret
  exact ⟨rfl, Below.refl _ _⟩

end Go.Proofs.Ybulkdwti

/-
  6178A: the law.
-/
import Derived.Test.YbulkdwxqS7
namespace Go.Proofs.Ybulkdwxq
open Go.RowKit Go.Sort

/-- THE REGISTRATIONS THAT CAME IN. -/
def IsReg (w : World) (a : Option Addr) (n : Nat) (S I E : Nat → Int) : Prop :=
  n = 0 ∨ ∃ b o, a = some ⟨b, o, none⟩ ∧ b < w.heap.size ∧ ∀ i, i < n → w.rangeAt b (o + i * 3) [.int .i64 (S i), .int .i64 (I i), .int .i64 (E i)]
theorem size25 (w : World) : (sizeOf 25).run Yba.prog w = .ok 3 w := by kernel_rfl
theorem IsReg.get {w : World} {a : Option Addr} {n cap : Nat} {S I E : Nat → Int} (h : IsReg w a n S I E) {k : Nat} (hk : k < n) :
    ∃ b o, (∀ wx, (Instr.indexAt 22 (.slice a n cap) (.int .i64 (k : Int))).run Yba.prog wx = .ok (.pointer (some ⟨b, o + k * 3, none⟩)) wx) ∧ b < w.heap.size ∧ w.rangeAt b (o + k * 3) [.int .i64 (S k), .int .i64 (I k), .int .i64 (E k)] := by
  obtain h0 | ⟨b, o, rfl, hb, hr⟩ := h
  · omega
  · refine ⟨b, o, ?_, hb, hr k hk⟩
    intro wx
    have he : Yba.prog.elem 22 = 25 := by kernel_rfl
    rw [run_indexAt_slice wx 22 _ _ _ _ _ (by rw [he]; exact Yba.underlying22), he, if_pos ⟨by omega, by omega⟩, size25]
    simp [Result.andThen, WideShapes.add_plain]
theorem info27 : (Yba.prog.info? 27).map (·.size) = some 3 := by kernel_rfl
theorem size27 (w : World) : (sizeOf 27).run Yba.prog w = .ok 3 w := by kernel_rfl
theorem index23 {g n cap : Nat} {i : Int} {j : Nat} (hi : i = (j : Int)) (hj : j < n) (wx : World) : (Instr.indexAt 23 (.slice (some ⟨g, 0, none⟩) n cap) (.int .i64 i)).run Yba.prog wx = .ok (.pointer (some ⟨g, j * 3, none⟩)) wx := by
  subst hi
  have he : Yba.prog.elem 23 = 27 := by kernel_rfl
  rw [run_indexAt_slice wx 23 _ _ _ _ _ (by rw [he]; exact Yba.underlying23), he, if_pos ⟨by omega, by omega⟩, size27]
  simp [Result.andThen, WideShapes.add_plain]
theorem info27p : ∃ i z, Yba.prog.info? 27 = some i ∧ i.zero = some z ∧ i.size = 3 ∧ i.bytes = 24 := by
  have h : (Yba.prog.info? 27).map (fun i => (i.zero, i.size, i.bytes)) = some (some (.agg #[.int .i64 0, .int .i64 0, .int .i64 0]), 3, 24) := by kernel_rfl
  cases hi : Yba.prog.info? 27 with
  | none => rw [hi] at h; cases h
  | some i =>
    rw [hi] at h
    simp only [Option.map_some, Option.some.injEq, Prod.mk.injEq] at h
    exact ⟨i, _, rfl, h.1, h.2.1, h.2.2⟩
theorem make23 (n : Nat) (hn : n ≤ 1048576) : ∃ C : Array Value, C.size = n * 3 ∧ ∀ w, (Instr.makeSlice 23 (.int .i64 n) (.int .i64 n)).run Yba.prog w = .ok (.slice (some ⟨w.heap.size, 0, none⟩) n n) (w.alloc (.cells C 27)) := by
  obtain ⟨i, z, h1, h2, h3, h4⟩ := info27p
  refine ⟨madeCells z.cells (n * 3), size_madeCells _ _, fun w => ?_⟩
  have := run_make w 23 27 i z Yba.underlying23 h1 h2 .i64 .i64 n n (by omega) (by omega) (by rw [h4]; omega) (by omega)
  rw [h3] at this
  simpa using this
/-- The cells of a registration. -/
def reg (S I E : Nat → Int) (j : Nat) : List Value := [.int .i64 (S j), .int .i64 (I j), .int .i64 (E j)]
/-- The cells of the first n. -/
def regs (S I E : Nat → Int) (n : Nat) : List Value := (List.range n).flatMap (reg S I E)
theorem regs_len (S I E : Nat → Int) (n : Nat) : (regs S I E n).length = n * 3 := by
  unfold regs
  induction n with
  | zero => rfl
  | succ n ih => rw [List.range_succ, List.flatMap_append, List.length_append, ih]; simp [reg]; omega
theorem regs_get (S I E : Nat → Int) : ∀ (n q r : Nat), q < n → r < 3 → (regs S I E n)[q * 3 + r]? = (reg S I E q)[r]?
  | 0, q, r, h, _ => by omega
  | n + 1, q, r, h, hr => by
    have hl := regs_len S I E n
    have e : regs S I E (n + 1) = regs S I E n ++ reg S I E n := by unfold regs; rw [List.range_succ, List.flatMap_append]; simp
    rw [e]
    rcases Nat.lt_succ_iff_lt_or_eq.1 h with h1 | h1
    · rw [List.getElem?_append_left (by omega)]; exact regs_get S I E n q r h1 hr
    · subst h1
      rw [List.getElem?_append_right (by omega), hl]
      congr 1
      omega
theorem regs_one (S I E : Nat → Int) (n : Nat) : ∀ v ∈ regs S I E n, v.oneCell' = true := by
  intro v hv
  unfold regs at hv
  simp only [List.mem_flatMap, List.mem_range, reg] at hv
  obtain ⟨j, _, hj⟩ := hv
  simp at hj
  rcases hj with rfl | rfl | rfl <;> rfl
theorem neq27_same (a b c : Int) (w : World) : (binOp .neq 27 (.agg #[.int .i64 a, .int .i64 b, .int .i64 c]) (.agg #[.int .i64 a, .int .i64 b, .int .i64 c])).run Yba.prog w = .ok (.bool false) w := by go_simp
theorem ptr49_neq (a : Addr) (w : World) : (binOp .neq 49 (.pointer (some a)) (.pointer (some a))).run Yba.prog w = .ok (.bool false) w := by
  obtain ⟨j, _, hj, _⟩ := info27p
  have h : ∀ d : Nat, (Op.equalIn (d + 1) 49 (.pointer (some a)) (.pointer (some a))).run Yba.prog w = .ok true w := fun d => by
    simp [Op.equalIn, run_underlying Yba.underlying49, sizeOf, typeInfo, hj, run_sameAddr_same]
  simp only [binOp]
  simp [Op.equal, Op.maxDepth, h 9999]
theorem build27C (a b c : Int) (w : World) : (Instr.build 27 #[(0, .int .i64 a), (1, .int .i64 b), (2, .int .i64 c)]).run Yba.prog w = .ok (.agg #[.int .i64 a, .int .i64 b, .int .i64 c]) w := by kernel_rfl
theorem load3c {w : World} {b o : Nat} {v : Int} (hc : w.cell? ⟨b, o, none⟩ = some (.int .i64 v)) : (Instr.loadAt 3 (.pointer (some ⟨b, o, none⟩))).run Yba.prog w = .ok (.int .i64 v) w := by go_simp

/-- THE MEMORY BEHIND suspects. -/
structure Fi (w0 w : World) (gr gv B N : Nat) (S I E : Nat → Int) (gg : Value) (xs : List (Nat × Nat)) : Prop where
  rw_ : Rw w gr N 3 N (reg S I E)
  sv : ∀ j, j < N → w.rangeAt gv (j * 3) (reg S I E j)
  lt : gv < w.heap.size
  bel : Below gr w0 w
  own : w.ownsRow B 48 3 gg xs.length (xs.flatMap (cel S gr))
theorem Fi.below {w0 w w' : World} {gr gv B N : Nat} {S I E : Nat → Int} {gg : Value} {xs : List (Nat × Nat)} (h : Fi w0 w gr gv B N S I E gg xs) (b : Below w.heap.size w w') : Fi w0 w' gr gv B N S I E gg xs :=
  ⟨h.rw_.below b, fun j hj => rangeAt_below (h.sv j hj) b h.lt, by have := h.lt; have := b.size; omega, h.bel.trans (b.mono (Nat.le_of_lt h.rw_.lt)), own_below h.own b⟩
theorem len_own {w : World} {B n : Nat} {gg : Value} {cs : List Value} (h : w.ownsRow B 48 3 gg n cs) (wx : World) : (Builtin.len_ #[45] 3 #[gg]).run Yba.prog wx = .ok (.int .i64 n) wx := by
  rcases h.2 with ⟨rfl, rfl⟩ | ⟨g, cap, cur, rfl, _⟩
  · simp [Builtin.len_, run_underlying Yba.underlying45, goInt, Result.andThen]
  · simp [Builtin.len_, run_underlying Yba.underlying45, goInt, Result.andThen]

set_option maxRecDepth 100000 in
set_option maxHeartbeats 16000000 in
theorem law_small (a0 : Option Addr) (N cap0 : Nat) (S I E : Nat → Int) (v : Int) (w : World) (h0 : IsReg w a0 N S I E) (hN : N ≤ 1048576) :
    Calls Yba.prog 3 #[.slice a0 N cap0, .int .i64 v] w fun e w' => e = .returned (.bool true) ∧ Below w.heap.size w w' := by
  obtain ⟨C, hC, MK⟩ := make23 N hN
  go_enter Yba.func3, Yba.ntmps3
  go_upto_block 0 with fail
  have hb1 := al_new w (.cells C 27) _ rfl
  have bw : Below w.heap.size w (w.alloc (.cells C 27)) := (Below.refl _ _).alloc (Nat.le_refl _) _
  have RW : Hid (Rw (w.alloc (.cells C 27)) w.heap.size N 3 0 (reg S I E)) := Rw.made hb1 hC _
  have HZ : Hid ((w.alloc (.cells C 27)).heap.size = w.heap.size + 1) := al_size _ _
  have HB : Hid _ := bw
  clear hb1 bw
  generalize hgr : w.heap.size = gr at RW HB HZ ⊢
  generalize (w.alloc (.cells C 27)) = w1 at RW HB HZ ⊢
  have HGR : Hid _ := hgr
  go_cut [6, 23] from 24 to 45 (fun _ _ wx => Hid (Rw wx gr N 3 N (reg S I E)) ∧ Hid (Below gr w wx) ∧ Hid (wx.heap.size = gr + 1))
  case first =>
    go_wp2_with fail
    go_loopg [6, 23] N (fun k _ s wr => ∃ i : Nat, i ≤ N ∧ k = N - i ∧ s = .int .i64 i ∧ Hid (Rw wr gr N 3 i (reg S I E)) ∧ Hid (Below gr w wr) ∧ Hid (wr.heap.size = gr + 1))
    case atStart => exact ⟨0, Nat.zero_le _, rfl, rfl, RW, HB, HZ⟩
    case round =>
      clear RW HB HZ w1
      obtain ⟨i, hi, rfl, rfl, RW, HB, HZ⟩ := hrel
      by_cases hlt : i < N
      · have hlt' : (i : Int) < (N : Int) := by omega
        have h0i : (0 : Int) ≤ (i : Int) := by omega
        obtain ⟨b, o, hix, hb, hra⟩ := h0.get (cap := cap0) hlt
        have LD0 : ∀ wx, Below gr w wx → (Instr.loadAt 3 (.pointer (some ⟨b, o + i * 3, none⟩))).run Yba.prog wx = .ok (.int .i64 (S i)) wx := fun wx hk => load3c ((hk.cell (p := ⟨b, o + i * 3, none⟩) (show b < gr by omega)).trans (hra 0 _ rfl))
        have LD1 : ∀ wx, Below gr w wx → (Instr.loadAt 3 (.pointer (some ⟨b, o + i * 3 + 1, none⟩))).run Yba.prog wx = .ok (.int .i64 (I i)) wx := fun wx hk => load3c ((hk.cell (p := ⟨b, o + i * 3 + 1, none⟩) (show b < gr by omega)).trans (hra 1 _ rfl))
        have LD2 : ∀ wx, Below gr w wx → (Instr.loadAt 3 (.pointer (some ⟨b, o + i * 3 + 2, none⟩))).run Yba.prog wx = .ok (.int .i64 (E i)) wx := fun wx hk => load3c ((hk.cell (p := ⟨b, o + i * 3 + 2, none⟩) (show b < gr by omega)).trans (hra 2 _ rfl))
        have X := index23 (g := gr) (n := N) (cap := N) (i := (i : Int)) (j := i) rfl hlt
        have TH : wr.drew.there gr (i * 3) 3 := RW.out.room hlt
        have HS0 : Below gr w wr.drew := ⟨HB.out.os, HB.out.tape, HB.out.output, HB.out.size, HB.out.block⟩
        have RW2 : Hid (Rw (wr.drew.setCells gr (i * 3) (reg S I E i)) gr N 3 (i + 1) (reg S I E)) := Rw.put (f := reg S I E) (f' := reg S I E) (w := wr.drew) ⟨RW.out.lt, RW.out.th, RW.out.ln, RW.out.at_⟩ hlt rfl (fun _ _ => rfl) rfl
        have HB2 : Hid (Below gr w (wr.drew.setCells gr (i * 3) (reg S I E i))) := below_setCells HS0 (by rw [← HGR.out]; exact Nat.le_refl _) (Nat.le_refl _) _ _
        have HZ2 : Hid ((wr.drew.setCells gr (i * 3) (reg S I E i)).heap.size = gr + 1) := by
          show _ = _
          rw [setCells_size]
          exact HZ.out
        clear hra
        go_upto_region 7 with fail
        refine wp_region_held_drew (S := fun wx => Below gr w wx) (by kernel_rfl) HS0 (fun hS => ?_)
        refine takeH 0 (some 26) (.slice (some ⟨gr, 0, none⟩) N N) rfl rfl (by kernel_rfl) (by kernel_rfl) (by kernel_rfl) (fun _ _ _ h => h) (yields_move (by rfl) (.tmp 5) rfl _ (by rfl)) hS ?_
        go_frame
        refine takeH 1 (some 27) (.int .i64 (i : Int)) rfl rfl (by kernel_rfl) (by kernel_rfl) (by kernel_rfl) (fun _ _ _ h => h) (yields_move (by rfl) (.tmp 6) rfl _ (by rfl)) hS ?_
        go_frame
        refine takeH 2 (some 28) (.slice a0 N cap0) rfl rfl (by kernel_rfl) (by kernel_rfl) (by kernel_rfl) (fun _ _ _ h => h) (yields_move (by rfl) (.tmp 0) rfl _ (by rfl)) hS ?_
        go_frame
        refine takeH 3 (some 29) (.int .i64 (i : Int)) rfl rfl (by kernel_rfl) (by kernel_rfl) (by kernel_rfl) (fun _ _ _ h => h) (yields_move (by rfl) (.tmp 6) rfl _ (by rfl)) hS ?_
        go_frame
        refine takeH 4 (some 30) (.pointer (some ⟨b, o + i * 3, none⟩)) rfl rfl (by kernel_rfl) (by kernel_rfl) (by kernel_rfl) (fun _ _ _ h => h) (.inl ⟨by rfl, fun w _ => by go_simp⟩) hS ?_
        go_frame
        refine takeH 5 (some 31) (.pointer (some ⟨b, o + i * 3, none⟩)) rfl rfl (by kernel_rfl) (by kernel_rfl) (by kernel_rfl) (fun _ _ _ h => h) (.inl ⟨by rfl, fun w _ => by go_simp⟩) hS ?_
        go_frame
        refine takeH 6 (some 32) (.int .i64 (S i)) rfl rfl (by kernel_rfl) (by kernel_rfl) (by kernel_rfl) (fun _ _ _ h => h) (yields_load (by rfl) 3 (.tmp 31) rfl (.pointer (some ⟨b, o + i * 3, none⟩)) _ (by rfl) LD0) hS ?_
        go_frame
        refine takeH 7 (some 33) (.slice a0 N cap0) rfl rfl (by kernel_rfl) (by kernel_rfl) (by kernel_rfl) (fun _ _ _ h => h) (yields_move (by rfl) (.tmp 0) rfl _ (by rfl)) hS ?_
        go_frame
        refine takeH 8 (some 34) (.int .i64 (i : Int)) rfl rfl (by kernel_rfl) (by kernel_rfl) (by kernel_rfl) (fun _ _ _ h => h) (yields_move (by rfl) (.tmp 6) rfl _ (by rfl)) hS ?_
        go_frame
        refine takeH 9 (some 35) (.pointer (some ⟨b, o + i * 3, none⟩)) rfl rfl (by kernel_rfl) (by kernel_rfl) (by kernel_rfl) (fun _ _ _ h => h) (.inl ⟨by rfl, fun w _ => by go_simp⟩) hS ?_
        go_frame
        refine takeH 10 (some 36) (.pointer (some ⟨b, o + i * 3 + 1, none⟩)) rfl rfl (by kernel_rfl) (by kernel_rfl) (by kernel_rfl) (fun _ _ _ h => h) (.inl ⟨by rfl, fun w _ => by go_simp⟩) hS ?_
        go_frame
        refine takeH 11 (some 37) (.int .i64 (I i)) rfl rfl (by kernel_rfl) (by kernel_rfl) (by kernel_rfl) (fun _ _ _ h => h) (yields_load (by rfl) 3 (.tmp 36) rfl (.pointer (some ⟨b, o + i * 3 + 1, none⟩)) _ (by rfl) LD1) hS ?_
        go_frame
        refine takeH 12 (some 38) (.slice a0 N cap0) rfl rfl (by kernel_rfl) (by kernel_rfl) (by kernel_rfl) (fun _ _ _ h => h) (yields_move (by rfl) (.tmp 0) rfl _ (by rfl)) hS ?_
        go_frame
        refine takeH 13 (some 39) (.int .i64 (i : Int)) rfl rfl (by kernel_rfl) (by kernel_rfl) (by kernel_rfl) (fun _ _ _ h => h) (yields_move (by rfl) (.tmp 6) rfl _ (by rfl)) hS ?_
        go_frame
        refine takeH 14 (some 40) (.pointer (some ⟨b, o + i * 3, none⟩)) rfl rfl (by kernel_rfl) (by kernel_rfl) (by kernel_rfl) (fun _ _ _ h => h) (.inl ⟨by rfl, fun w _ => by go_simp⟩) hS ?_
        go_frame
        refine takeH 15 (some 41) (.pointer (some ⟨b, o + i * 3 + 2, none⟩)) rfl rfl (by kernel_rfl) (by kernel_rfl) (by kernel_rfl) (fun _ _ _ h => h) (.inl ⟨by rfl, fun w _ => by go_simp⟩) hS ?_
        go_frame
        refine takeH 16 (some 42) (.int .i64 (E i)) rfl rfl (by kernel_rfl) (by kernel_rfl) (by kernel_rfl) (fun _ _ _ h => h) (yields_load (by rfl) 3 (.tmp 41) rfl (.pointer (some ⟨b, o + i * 3 + 2, none⟩)) _ (by rfl) LD2) hS ?_
        go_frame
        refine takeH 17 (some 43) (.agg (reg S I E i).toArray) rfl rfl (by kernel_rfl) (by kernel_rfl) (by kernel_rfl) (fun _ _ _ h => h) (yields_build (by rfl) 27 #[(0, .tmp 32), (1, .tmp 37), (2, .tmp 42)] rfl #[(0, .int .i64 (S i)), (1, .int .i64 (I i)), (2, .int .i64 (E i))] (by rfl) _ (build27C _ _ _)) hS ?_
        go_frame
        refine takeH 18 (some 44) (.pointer (some ⟨gr, i * 3, none⟩)) rfl rfl (by kernel_rfl) (by kernel_rfl) (by kernel_rfl) (fun _ _ _ h => h) (.inl ⟨by rfl, fun w _ => by go_simp⟩) hS ?_
        go_frame
        refine wpAnyH_ready (rs := [19]) (by kernel_rfl) (by simp) ?_
        refine readyH_store 19 none rfl rfl (by rfl) 27 (.tmp 44) (.tmp 43) rfl gr (i * 3) (reg S I E i).toArray (by rfl) (by rfl) TH (by kernel_rfl) (by simp [reg, Value.oneCell']) ⟨below_setCells hS (by rw [← HGR.out]; exact Nat.le_refl _) (Nat.le_refl _) _ _, ?_⟩ AllReadyH.nil
        refine wpAnyH_done (by kernel_rfl) ?_ _
        go_frame
        clear LD0 LD1 LD2 X TH HS0 hS
        go_wp2_with fail
        go_roundg (N - (i + 1))
        case measure => omega
        case rel => exact ⟨i + 1, by omega, rfl, by go_num, RW2, HB2, HZ2⟩
      · have hiN : i = N := by omega
        subst hiN
        have hlt' : ¬ (i : Int) < (i : Int) := by omega
        go_wp2_with fail
        go_meet
        exact ⟨RW, HB, HZ⟩
  case rest =>
    clear RW HB HZ w1
    obtain ⟨RW, HB, HZ⟩ := hcut
    have bA : Below wc.heap.size wc (wc.alloc (.cells C 27)) := (Below.refl _ _).alloc (Nat.le_refl _) _
    have hb2 := al_new wc (.cells C 27) _ rfl
    replace RW : Hid _ := RW.out.below bA
    have HB2 : Hid _ := below_more HB.out (by rw [HGR.out]; exact Nat.le_refl _) bA
    have HZ2 : Hid (wc.heap.size = gr + 1) := HZ.out
    go_upto_region 10 with fail
    generalize hgv : wc.heap.size = gv at hb2 HZ2 ⊢
    generalize (wc.alloc (.cells C 27)) = w2 at RW HB2 hb2 ⊢
    clear bA HB HZ hgv
    clear wc
    have HSRC : Hid (∀ j u, (regs S I E N)[j]? = some u → w2.cell? ((⟨gr, 0, none⟩ : Addr).add j) = some u) := by
      intro j u hu
      have hj : j < N * 3 := by have := (List.getElem?_eq_some_iff.1 hu).1; rwa [regs_len] at this
      have e : j = j / 3 * 3 + j % 3 := by omega
      rw [e, regs_get S I E N (j / 3) (j % 3) (by omega) (by omega)] at hu
      have := RW.out.at_ (j / 3) (by omega) (j % 3) u hu
      rw [Addr.add_mid, Nat.zero_add, e]
      exact this
    have RWS : Hid (Rw (w2.setRow gv (regs S I E N).toArray) gr N 3 N (reg S I E)) := RW.out.turn (S := fun k => k = gv) (turn_setRow w2 gv _) (by have := HZ2.out; omega)
    have SVS : Hid (∀ j, j < N → (w2.setRow gv (regs S I E N).toArray).rangeAt gv (j * 3) (reg S I E j)) := by
      intro j hj k u hu
      have hk : k < 3 := by have := (List.getElem?_eq_some_iff.1 hu).1; simpa [reg] using this
      rw [cell_of_row _ _ _ _ _ _ (setRow_new w2 gv (regs S I E N).toArray hb2), List.getElem?_toArray, regs_get S I E N j k hj hk]
      exact hu
    have HB3 : Hid (Below gr w (w2.setRow gv (regs S I E N).toArray)) := below_setRow HB2.out (by have := HZ2.out; omega) _
    have HZ3 : Hid (gv < (w2.setRow gv (regs S I E N).toArray).heap.size) := (Array.getElem?_eq_some_iff.1 (setRow_new w2 gv (regs S I E N).toArray hb2)).1
    go_upto_region 11 with (refine wpList_copy3 (by rfl) (.tmp 49) (.tmp 50) 23 23 (by rfl) 27 Yba.underlying23 info27 gv N N ⟨gr, 0, none⟩ N (by rfl) (by rfl) C 27 hb2 (regs S I E N) (regs_len S I E N).symm HSRC.out (by rw [hC, regs_len]) (regs_one S I E N) ?_)
    try go_frame
    generalize (w2.setRow gv (regs S I E N).toArray) = w3 at RWS SVS HB3 HZ3 ⊢
    clear HSRC RW HB2 hb2
    clear w2
    go_upto_region 12 with fail
    have b4 : Below w3.heap.size w3 ((w3.alloc (.cells #[.pointer none, .slice none 0 0, .nilIface, .int .i64 0, .float .f64 0, .bool false, .int .u64 0, .bool false, .pointer none] 38)).alloc (.cells #[.pointer (some ⟨w3.heap.size, 0, none⟩), .int .i64 v, .slice none 0 0, .slice none 0 0, .slice none 0 0, .slice none 0 0, .slice none 0 0, .slice none 0 0] 44)) := ((Below.refl _ _).alloc (Nat.le_refl _) _).alloc (by simp) _
    have q1 := al_old _ (.cells #[.pointer (some ⟨w3.heap.size, 0, none⟩), .int .i64 v, .slice none 0 0, .slice none 0 0, .slice none 0 0, .slice none 0 0, .slice none 0 0, .slice none 0 0] 44) _ _ (al_new w3 (.cells #[.pointer none, .slice none 0 0, .nilIface, .int .i64 0, .float .f64 0, .bool false, .int .u64 0, .bool false, .pointer none] 38) _ rfl)
    have q2 := al_new (w3.alloc (.cells #[.pointer none, .slice none 0 0, .nilIface, .int .i64 0, .float .f64 0, .bool false, .int .u64 0, .bool false, .pointer none] 38)) (.cells #[.pointer (some ⟨w3.heap.size, 0, none⟩), .int .i64 v, .slice none 0 0, .slice none 0 0, .slice none 0 0, .slice none 0 0, .slice none 0 0, .slice none 0 0] 44) (w3.heap.size + 1) (al_size _ _).symm
    replace RWS : Hid _ := RWS.out.below b4
    have SV4 : Hid (∀ j, j < N → World.rangeAt ((w3.alloc (.cells #[.pointer none, .slice none 0 0, .nilIface, .int .i64 0, .float .f64 0, .bool false, .int .u64 0, .bool false, .pointer none] 38)).alloc (.cells #[.pointer (some ⟨w3.heap.size, 0, none⟩), .int .i64 v, .slice none 0 0, .slice none 0 0, .slice none 0 0, .slice none 0 0, .slice none 0 0, .slice none 0 0] 44)) gv (j * 3) (reg S I E j)) := fun j hj => rangeAt_below (SVS.out j hj) b4 HZ3.out
    have HB4 : Hid _ := below_more HB3.out (by rw [HGR.out]; exact Nat.le_refl _) b4
    have HG4 : Hid (gr < w3.heap.size ∧ gv < w3.heap.size) := ⟨by have := HZ2.out; have := HZ3.out; omega, HZ3.out⟩
    clear b4
    generalize hgs : w3.heap.size = gs at q1 q2 HG4 RWS SV4 HB4 ⊢
    generalize ((w3.alloc (.cells #[.pointer none, .slice none 0 0, .nilIface, .int .i64 0, .float .f64 0, .bool false, .int .u64 0, .bool false, .pointer none] 38)).alloc (.cells #[.pointer (some ⟨gs, 0, none⟩), .int .i64 v, .slice none 0 0, .slice none 0 0, .slice none 0 0, .slice none 0 0, .slice none 0 0, .slice none 0 0] 44)) = w4 at q1 q2 RWS SV4 HB4 ⊢
    clear SVS HB3 HZ3 HZ2 hgs
    clear w3
    have SU := suspects_any (gs + 1) gs gr N S v hN w4 ((cell_of_row _ _ _ _ _ _ q2).trans rfl) ((cell_of_row _ _ _ _ _ _ q2).trans rfl) ((cell_of_row _ _ _ _ _ _ q1).trans rfl) ((cell_of_row _ _ _ _ _ _ q1).trans rfl) (fun j hj => RWS.out.at_ j hj 0 _ rfl)
    go_upto_region 13 with (go_at_call 4; refine SU.mono ?_; rintro e w5 ⟨gg, xs, rfl, hb5, hR, hO, hnil⟩)
    have HFI : ∃ B, Hid (Fi w w5 gr gv B N S I E gg xs) := ⟨w4.heap.size, RWS.out.below hb5, fun j hj => rangeAt_below (SV4.out j hj) hb5 (by have := (Array.getElem?_eq_some_iff.1 q1).1; have := HG4.out.2; omega), by have := (Array.getElem?_eq_some_iff.1 q1).1; have := HG4.out.2; have := hb5.size; omega, below_more HB4.out (by rw [HGR.out]; exact Nat.le_refl _) hb5, hO⟩
    obtain ⟨B, FN⟩ := HFI
    have HR : Hid _ := hR
    have HNIL : Hid _ := hnil
    have LEN : ∀ wx, (Builtin.len_ #[45] 3 #[gg]).run Yba.prog wx = .ok (.int .i64 xs.length) wx := len_own hO
    clear SU hb5 hR hO hnil q1 q2 RWS SV4 HB4 HG4 MK
    clear w4
    go_upto_block 2 with fail
    go_cut [10] from 60 to 74 (fun _ wx => Hid (Fi w wx gr gv B N S I E gg xs))
    case first =>
      go_wp2_with fail
      go_loopg [10] N (fun k s wr => ∃ i : Nat, i ≤ N ∧ k = N - i ∧ s = .int .i64 i ∧ Hid (Fi w wr gr gv B N S I E gg xs))
      case atStart => exact ⟨0, Nat.zero_le _, rfl, rfl, FN⟩
      case round =>
        clear FN w5
        obtain ⟨i, hi, rfl, rfl, FN⟩ := hrel
        by_cases hlt : i < N
        · have hlt' : (i : Int) < (N : Int) := by omega
          have X1 := index23 (g := gr) (n := N) (cap := N) (i := (i : Int)) (j := i) rfl hlt
          have X2 := index23 (g := gv) (n := N) (cap := N) (i := (i : Int)) (j := i) rfl hlt
          have c0 : wr.cell? ⟨gr, i * 3, none⟩ = some (.int .i64 (S i)) := FN.out.rw_.at_ i hlt 0 _ rfl
          have c1 : wr.cell? ⟨gr, i * 3 + 1, none⟩ = some (.int .i64 (I i)) := FN.out.rw_.at_ i hlt 1 _ rfl
          have c2 : wr.cell? ⟨gr, i * 3 + 2, none⟩ = some (.int .i64 (E i)) := FN.out.rw_.at_ i hlt 2 _ rfl
          have d0 : wr.cell? ⟨gv, i * 3, none⟩ = some (.int .i64 (S i)) := FN.out.sv i hlt 0 _ rfl
          have d1 : wr.cell? ⟨gv, i * 3 + 1, none⟩ = some (.int .i64 (I i)) := FN.out.sv i hlt 1 _ rfl
          have d2 : wr.cell? ⟨gv, i * 3 + 2, none⟩ = some (.int .i64 (E i)) := FN.out.sv i hlt 2 _ rfl
          have NE := neq27_same (S i) (I i) (E i)
          have FE : ∀ k, Hid (Fi w (wr.drewN k) gr gv B N S I E gg xs) := fun k => FN.out.below ⟨rfl, rfl, rfl, Nat.le_refl _, fun _ _ => rfl⟩
          generalize S i = s1 at c0 d0 NE
          generalize I i = s2 at c1 d1 NE
          generalize E i = s3 at c2 d2 NE
          go_upto_region 16 with fail
          go_quiet (fail)
          go_wp2_with fail
          go_roundg (N - (i + 1))
          case measure => omega
          case rel => exact ⟨i + 1, by omega, rfl, by go_num, FE _⟩
        · have hlt' : ¬ (i : Int) < (N : Int) := by omega
          go_wp2_with fail
          go_meet
          exact FN
    case rest =>
      have FN2 : Hid (Fi w wc gr gv B N S I E gg xs) := hcut
      clear FN hcut w5
      go_upto_block 4 with fail
      go_wp2_with fail
      go_loopg [11, 12, 13, 14] N (fun k sj si _ _ wr => ∃ i : Nat, i ≤ N ∧ k = N - i ∧ si = .int .i64 i ∧ sj = .int .i64 (cnt S v i : Nat) ∧ Hid (Fi w wr gr gv B N S I E gg xs))
      case atStart => exact ⟨0, Nat.zero_le _, rfl, rfl, rfl, FN2⟩
      case round =>
        clear FN2 wc
        obtain ⟨i, hi, rfl, rfl, rfl, FN⟩ := hrel
        have hci := cnt_id (S := S) (v := v) i
        by_cases hlt : i < N
        · have hlt' : (i : Int) < (N : Int) := by omega
          have X1 := index23 (g := gr) (n := N) (cap := N) (i := (i : Int)) (j := i) rfl hlt
          go_upto_region 22 with fail
          go_cut [96] from 81 to 95 (fun s wx => s = .bool (decide (0 < i) && decide (S (i - 1) = S i)) ∧ Hid (Fi w wx gr gv B N S I E gg xs))
          case first =>
            have c1 : wr.cell? ⟨gr, i * 3, none⟩ = some (.int .i64 (S i)) := FN.out.rw_.at_ i hlt 0 _ rfl
            have FE : ∀ k, Hid (Fi w (wr.drewN k) gr gv B N S I E gg xs) := fun k => FN.out.below ⟨rfl, rfl, rfl, Nat.le_refl _, fun _ _ => rfl⟩
            by_cases h0i : 0 < i
            · have h0i' : (0 : Int) < (i : Int) := by omega
              obtain ⟨p, hp⟩ : ∃ p, p = i - 1 := ⟨_, rfl⟩
              have X2 := index23 (g := gr) (n := N) (cap := N) (i := (i : Int) - 1) (j := p) (by omega) (by omega)
              have c0 : wr.cell? ⟨gr, p * 3, none⟩ = some (.int .i64 (S p)) := FN.out.rw_.at_ p (by omega) 0 _ rfl
              have HP : Hid _ := hp
              clear hp
              by_cases e : S p = S i
              · have HE : Hid ((decide (0 < i) && decide (S (i - 1) = S i)) = true) := by show _ = _; rw [← HP.out]; simp [h0i, e]
                rw [e] at c0
                clear e
                go_quiet (fail)
                go_wp2_with fail
                go_meet
                exact ⟨by rw [HE.out], FE _⟩
              · have HE : Hid ((decide (0 < i) && decide (S (i - 1) = S i)) = false) := by show _ = _; rw [← HP.out]; simp [e]
                generalize S p = sp at c0 e
                generalize S i = si at c1 e
                have eb : (sp == si) = false := by simp [e]
                go_quiet (fail)
                go_wp2_with fail
                go_meet
                exact ⟨by rw [HE.out], FE _⟩
            · have h0i' : ¬ (0 : Int) < (i : Int) := by omega
              have HE : Hid ((decide (0 < i) && decide (S (i - 1) = S i)) = false) := by show _ = _; simp [h0i]
              go_quiet (fail)
              go_wp2_with fail
              go_meet
              exact ⟨by rw [HE.out], FE _⟩
          case rest =>
            obtain ⟨rfl, FN3⟩ := hcut
            clear FN
            cases hct : (decide (0 < i) && decide (S (i - 1) = S i)) with
            | true =>
              have HC : Hid (cnt S v (i + 1) = cnt S v i) := by
                have h2 : isSt S v i = false := by
                  simp only [Bool.and_eq_true, decide_eq_true_eq] at hct
                  unfold isSt
                  rw [show decide (i = 0) = false by simp; omega, show decide (S (i - 1) = S i) = true by simpa using hct.2]
                  rfl
                show _ = _
                simp [cnt, h2]
              clear hct
              go_wp2_with fail
              go_roundg (N - (i + 1))
              case measure => omega
              case rel => exact ⟨i + 1, by omega, rfl, by go_num, by rw [HC.out], FN3⟩
            | false =>
              have HBN : Hid (Bnd S i) := by
                rcases Nat.eq_zero_or_pos i with h | h
                · exact .inl h
                · refine .inr fun e => ?_
                  rw [show decide (0 < i) = true by simpa using h, show decide (S (i - 1) = S i) = true by simpa using e] at hct
                  cases hct
              clear hct
              go_upto_block 6 with fail
              go_cut [13] from 99 to 117 (fun s wx => ∃ e : Nat, i < e ∧ e ≤ N ∧ Hid (Eor S N i e) ∧ s = .int .i64 e ∧ Hid (Fi w wx gr gv B N S I E gg xs))
              case first =>
                go_wp2_with fail
                go_loopg [13] (N - (i + 1)) (fun k s wx => ∃ j : Nat, i + 1 ≤ j ∧ j ≤ N ∧ k = N - j ∧ s = .int .i64 j ∧ Hid (∀ t, i ≤ t → t < j → S t = S i) ∧ Hid (Fi w wx gr gv B N S I E gg xs))
                case atStart => exact ⟨i + 1, Nat.le_refl _, by omega, rfl, by go_num, fun t h1 h2 => by rw [show t = i by omega], FN3⟩
                case round =>
                  clear FN3 wc
                  obtain ⟨j, hj1, hj2, rfl, rfl, HI, FN⟩ := hrel
                  have c1 : wr.cell? ⟨gr, i * 3, none⟩ = some (.int .i64 (S i)) := FN.out.rw_.at_ i hlt 0 _ rfl
                  have FE : ∀ k, Hid (Fi w (wr.drewN k) gr gv B N S I E gg xs) := fun k => FN.out.below ⟨rfl, rfl, rfl, Nat.le_refl _, fun _ _ => rfl⟩
                  by_cases hjN : j < N
                  · have hjN' : (j : Int) < (N : Int) := by omega
                    have X2 := index23 (g := gr) (n := N) (cap := N) (i := (j : Int)) (j := j) rfl hjN
                    have c0 : wr.cell? ⟨gr, j * 3, none⟩ = some (.int .i64 (S j)) := FN.out.rw_.at_ j hjN 0 _ rfl
                    by_cases e : S j = S i
                    · have HI2 : Hid (∀ t, i ≤ t → t < j + 1 → S t = S i) := fun t h1 h2 => by
                        rcases Nat.lt_succ_iff_lt_or_eq.1 h2 with h | h
                        · exact HI.out t h1 h
                        · rw [h]; exact e
                      rw [e] at c0
                      clear e
                      go_upto_region 24 with fail
                      go_quiet (fail)
                      go_wp2_with fail
                      go_roundg (N - (j + 1))
                      case measure => omega
                      case rel => exact ⟨j + 1, by omega, by omega, rfl, by go_num, HI2, FE _⟩
                    · have HE : Hid (Eor S N i j) := ⟨by omega, hj2, HI.out, .inr e⟩
                      generalize S j = sp at c0 e
                      generalize S i = si at c1 e
                      have eb : (sp == si) = false := by simp [e]
                      go_upto_region 24 with fail
                      go_quiet (fail)
                      go_wp2_with fail
                      go_meet
                      exact ⟨j, by omega, hj2, HE, rfl, FE _⟩
                  · have hjN' : ¬ (j : Int) < (N : Int) := by omega
                    have HE : Hid (Eor S N i j) := ⟨by omega, hj2, HI.out, .inl (by omega)⟩
                    go_upto_region 24 with fail
                    go_quiet (fail)
                    go_wp2_with fail
                    go_meet
                    exact ⟨j, by omega, hj2, HE, rfl, FE _⟩
              case rest =>
                obtain ⟨e, hie, heN, HE, rfl, FN⟩ := hcut
                clear FN3
                have c1 : wc.cell? ⟨gr, i * 3, none⟩ = some (.int .i64 (S i)) := FN.out.rw_.at_ i hlt 0 _ rfl
                by_cases hv : S i = v
                · have HC : Hid (cnt S v (i + 1) = cnt S v i) := by
                    have h2 : isSt S v i = false := by rw [start_iff HBN.out]; simp [hv]
                    show _ = _
                    simp [cnt, h2]
                  rw [hv] at c1
                  go_wp2_with fail
                  go_roundg (N - (i + 1))
                  case measure => omega
                  case rel => exact ⟨i + 1, by omega, rfl, by go_num, by rw [HC.out], FN⟩
                · have h2 : isSt S v i = true := by rw [start_iff HBN.out]; simp [hv]
                  have HC : Hid (cnt S v (i + 1) = cnt S v i + 1) := by show _ = _; simp [cnt, h2]
                  obtain ⟨e', hx, he'⟩ := HR.out.2 i hlt h2
                  obtain rfl := Eor.unique he' HE.out
                  have hcl : cnt S v i < xs.length := (List.getElem?_eq_some_iff.1 hx).1
                  obtain ⟨g, cap, hgg, hgB, hgl⟩ := FN.out.own.form (by omega)
                  subst hgg
                  have hrow : ∀ k, k < 3 → wc.cell? ⟨g, cnt S v i * 3 + k, none⟩ = (cel S gr (i, e'))[k]? := fun k hk => by
                    rw [FN.out.own.cellAt (cnt S v i * 3 + k) (by omega), flat_get S gr xs (cnt S v i) k _ hx hk]
                  have hr3 : wc.rangeAt g (cnt S v i * 3) (cel S gr (i, e')) := fun k u hu => by
                    rw [hrow k (by have := (List.getElem?_eq_some_iff.1 hu).1; simpa [cel] using this)]; exact hu
                  have X2 := index45 (g := g) (n := xs.length) (cap := cap) (i := ((cnt S v i : Nat) : Int)) (j := cnt S v i) rfl hcl
                  have hcl' : ¬ (xs.length : Int) ≤ ((cnt S v i : Nat) : Int) := by omega
                  obtain ⟨d, hd⟩ : ∃ d, d = e' - i := ⟨_, rfl⟩
                  have hdI : (e' : Int) - (i : Int) = (d : Int) := by omega
                  have hd0 : (0 : Int) < (d : Int) := by omega
                  have hce : cel S gr (i, e') = [.int .i64 (S i), .int .u64 0, .slice (some ⟨gr, i * 3, none⟩) d d] := by rw [hd]; rfl
                  rw [hce] at hr3
                  clear hd hce hrow hx
                  have HV : Hid _ := hv
                  have HCL : Hid _ := hcl
                  generalize cnt S v i = c at *
                  generalize S i = si at *
                  go_upto_region 31 with (refine wpList_load_mid (by rfl) 48 (.tmp 131) (by rfl) g (c * 3) (by rfl) [.int .i64 si, .int .u64 0, .slice (some ⟨gr, i * 3, none⟩) d d] _ hr3 Yba.underlying48 (by rfl) (by kernel_rfl) ?_)
                  try go_frame
                  have bA : Below wc.heap.size wc (wc.alloc (.cells #[.int .i64 si, .int .u64 0, .slice (some ⟨gr, i * 3, none⟩) d d] 48)) := (Below.refl _ _).alloc (Nat.le_refl _) _
                  have nb := al_new wc (.cells #[.int .i64 si, .int .u64 0, .slice (some ⟨gr, i * 3, none⟩) d d] 48) _ rfl
                  have FN4 : Hid (Fi w (wc.alloc (.cells #[.int .i64 si, .int .u64 0, .slice (some ⟨gr, i * 3, none⟩) d d] 48)) gr gv B N S I E (.slice (some ⟨g, 0, none⟩) xs.length cap) xs) := FN.out.below bA
                  replace c1 := (bA.cell (p := ⟨gr, i * 3, none⟩) (World.block_lt_of_cell? wc _ c1)).trans c1
                  clear hr3 FN bA
                  generalize hg4 : wc.heap.size = g4 at nb ⊢
                  generalize (wc.alloc (.cells #[.int .i64 si, .int .u64 0, .slice (some ⟨gr, i * 3, none⟩) d d] 48)) = wd at nb FN4 c1 ⊢
                  have n0 : wd.cell? ⟨g4, 0, none⟩ = some (.int .i64 si) := (cell_of_row _ _ _ _ _ _ nb).trans rfl
                  have n1 : wd.cell? ⟨g4, 1, none⟩ = some (.int .u64 0) := (cell_of_row _ _ _ _ _ _ nb).trans rfl
                  have n2 : wd.cell? ⟨g4, 2, none⟩ = some (.slice (some ⟨gr, i * 3, none⟩) d d) := (cell_of_row _ _ _ _ _ _ nb).trans rfl
                  have PN := ptr49_neq ⟨gr, i * 3, none⟩
                  have FE : ∀ a b, Hid (Fi w ((wd.drewN a).drewN b) gr gv B N S I E (.slice (some ⟨g, 0, none⟩) xs.length cap) xs) := fun a b => FN4.out.below ⟨rfl, rfl, rfl, Nat.le_refl _, fun _ _ => rfl⟩
                  have FE1 : ∀ a, Hid (Fi w (wd.drewN a) gr gv B N S I E (.slice (some ⟨g, 0, none⟩) xs.length cap) xs) := fun a => FN4.out.below ⟨rfl, rfl, rfl, Nat.le_refl _, fun _ _ => rfl⟩
                  clear nb hg4
                  go_quiet (fail)
                  go_upto_region 35 with fail
                  go_quiet (fail)
                  go_wp2_with fail
                  go_roundg (N - (i + 1))
                  case measure => omega
                  case rel => exact ⟨i + 1, by omega, rfl, by go_num, by rw [HC.out]; go_num, by first | exact FE1 _ | exact FE _ _⟩
        · obtain rfl : i = N := by omega
          have hlt' : ¬ (i : Int) < (i : Int) := by omega
          have hxl := HR.out.1
          have hxl' : (((cnt S v i : Nat) : Int) == (xs.length : Int)) = true := by simp [hxl]
          by_cases hz : cnt S v i = 0
          · have hxs : xs = [] := List.eq_nil_of_length_eq_zero (by omega)
            have hg := HNIL.out hxs
            subst hg
            subst hxs
            have HBL := FN.out.bel
            have HBL2 : Hid _ := HBL
            clear HBL FN
            generalize cnt S v i = c at *
            subst hz
            go_wp2_with fail
            go_ret
            exact ⟨rfl, HBL2.out⟩
          · have hz' : ((cnt S v i : Nat) : Int) ≠ 0 := by omega
            have HBL : Hid _ := FN.out.bel
            clear FN
            rw [← hxl] at hz' ⊢
            go_wp2_with fail
            go_ret
            exact ⟨rfl, HBL.out⟩
end Go.Proofs.Ybulkdwxq

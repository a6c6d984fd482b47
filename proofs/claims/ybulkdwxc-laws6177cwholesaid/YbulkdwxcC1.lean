/-
  6177C: the closure, AddrPortFrom, the Peer's equality, byID.
-/
import Derived.Test.YbulkdwxcA6
namespace Go.Proofs.Ybulkdwxc
open Go.RowKit Go.Maps Go.Sort

/-- The identifier of a first byte. -/
def idk (k : Int) : List Int := [k, 0, 0, 0, 0, 0, 0, 0, 0, 0, 0, 0, 0, 0, 0, 0]
theorem idk_id {k : Int} (h : (Lit.int .u8 k).wf = true) : Id16 (idk k) := by
  refine ⟨rfl, fun b hb => ?_⟩
  simp only [idk, List.mem_cons, List.not_mem_nil, or_false] at hb
  rcases hb with rfl | rfl | rfl | rfl | rfl | rfl | rfl | rfl | rfl | rfl | rfl | rfl | rfl | rfl | rfl | rfl
  · exact h
  all_goals rfl
theorem idk_inj {k l : Int} : idk k = idk l ↔ k = l := by simp [idk]

set_option maxRecDepth 100000 in
/-- 'newReq': one call more; the number. -/
theorem req_any (gc gq : Nat) (n : Int) (rq : Int) (hn : 0 ≤ n ∧ n ≤ 65536) (w : World) (hne : gc ≠ gq) (hc : w.cell? ⟨gc, 0, none⟩ = some (.int .i64 n)) (hf : w.frozen? ⟨gc, 0, none⟩ = false) (hq : w.cell? ⟨gq, 0, none⟩ = some (.int .u64 rq)) :
    Calls Yba.prog 11 #[.pointer (some ⟨gc, 0, none⟩), .pointer (some ⟨gq, 0, none⟩)] w fun e w' => e = .returned (.int .u64 rq) ∧ w' = w.setCell ⟨gc, 0, none⟩ (.int .i64 (n + 1)) := by
  have hq2 : (w.setCell ⟨gc, 0, none⟩ (.int .i64 (n + 1))).cell? ⟨gq, 0, none⟩ = some (.int .u64 rq) := by
    rw [World.cell?_setCell_other _ _ _ _ (by simp), hq]
  go_enter Yba.func11, Yba.ntmps11
  go_wp2_with fail
  go_ret
  exact ⟨rfl, rfl⟩

set_option maxRecDepth 100000 in
theorem apf_any (p : Int) (w : World) :
    Calls Yba.prog 9 #[.agg #[.int .u64 0, .int .u64 0, .pointer none], .int .u16 p] w fun e w' => e = .returned (.agg #[.int .u64 0, .int .u64 0, .pointer none, .int .u16 p]) ∧ Below w.heap.size w w' := by
  have hB : ∀ a b, Below w.heap.size w ((w.alloc a).alloc b) := fun a b => ((Below.refl _ _).alloc (Nat.le_refl _) _).alloc (by simp) _
  go_enter Yba.func9, Yba.ntmps9
  go_wp2_with fail
  exact bodyPost_ret (v := .agg #[.int .u64 0, .int .u64 0, .pointer none, .int .u16 p]) (by simp [results, Yba.results9, go_sem]) rfl ⟨rfl, hB _ _⟩

theorem build46C (k p : Int) (w : World) : (Instr.build 46 #[(0, .agg (idv (idk k))), (1, .agg #[.int .u64 0, .int .u64 0, .pointer none, .int .u16 p])]).run Yba.prog w = .ok (.agg (peerP (idk k) p)) w := by kernel_rfl
theorem build30C (k : Int) (w : World) : (Instr.build 30 #[(0, .int .u8 k)]).run Yba.prog w = .ok (.agg (idv (idk k))) w := by kernel_rfl

set_option maxRecDepth 100000 in
theorem equalIn_same {I : List Int} (h : Id16 I) (w : World) : (Op.equalIn 9999 30 (.agg (idv I)) (.agg (idv I))).run Yba.prog w = .ok true w := by
  obtain ⟨l, hl⟩ := key_arr arr30 h
  unfold keyOf at hl
  rw [Yba.underlying30] at hl
  simp only at hl
  split at hl
  · rename_i hf
    simp only [Option.map_eq_some_iff] at hl
    obtain ⟨L, hL, _⟩ := hl
    have hf : (Value.agg (idv I)).formed Yba.prog 30 = true := by simp at hf; exact hf.2
    obtain ⟨r, hr, hi⟩ := run_equalIn_deep (P := Yba.prog) 9997 2 30 (arr30.at 0) w _ _ _ _ L L hf hf hL hL
    rw [hr, hi.2 rfl]
  · cases hl

set_option maxRecDepth 100000 in
theorem neq46 {k : Int} (hk : (Lit.int .u8 k).wf = true) (p q : Int) (w : World) : (binOp .neq 46 (.agg (peerP (idk k) p)) (.agg (peerP (idk k) q))).run Yba.prog w = .ok (.bool (!decide (p = q))) w := by
  have hp := fun d w => run_equalIn_pointer_nil (P := Yba.prog) w d
  have he := equalIn_same (idk_id hk)
  simp only [idv, peerP, idk, List.map_cons, List.map_nil, List.cons_append, List.nil_append] at he ⊢
  go_simp
  by_cases e : p = q
  · simp [e]
  · simp [e]

theorem idk_dec (k l : Int) : decide (idk k = idk l) = decide (k = l) := by rw [decide_eq_decide]; exact idk_inj
theorem eql30 {I J : List Int} (h : Id16 I) (g : Id16 J) (w : World) : (binOp .eql 30 (.agg (idv I)) (.agg (idv J))).run Yba.prog w = .ok (.bool (decide (I = J))) w := by
  simp only [binOp]
  simp [equal30 w h g]
/-- The first place of a key. -/
def Fst (ks : List Int) (k : Int) (r : Option Nat) : Prop :=
  match r with
  | none => ∀ j, j < ks.length → ks.getD j 0 ≠ k
  | some i => i < ks.length ∧ ks.getD i 0 = k ∧ ∀ j, j < i → ks.getD j 0 ≠ k
/-- The pointer to the link at a place. -/
def lptr (lp : List Nat) (r : Option Nat) : Value :=
  match r with
  | none => .pointer none
  | some i => .pointer (some ⟨lp.getD i 0, 0, none⟩)

set_option maxRecDepth 100000 in
set_option maxHeartbeats 1000000 in
/-- 'byID': the first link of that identifier. -/
theorem byID_any (gt gI gL n : Nat) (ks : List Int) (lp : List Nat) (k : Int) (r : Option Nat) (hk : (Lit.int .u8 k).wf = true) (hks : ∀ x ∈ ks, (Lit.int .u8 x).wf = true) (hl : ks.length = n) (hn : n ≤ 65536) (hF : Fst ks k r)
    (w : World) (h22 : w.cell? ⟨gt, 22, none⟩ = some (.slice (some ⟨gL, 0, none⟩) n n)) (h23 : w.cell? ⟨gt, 23, none⟩ = some (.slice (some ⟨gI, 0, none⟩) n n))
    (hI : ∀ i, i < n → w.rangeAt gI (i * 16) (idv (idk (ks.getD i 0))).toList) (hgI : gI < w.heap.size) (hL : ∀ i, i < n → w.cell? ⟨gL, i, none⟩ = some (.pointer (some ⟨lp.getD i 0, 0, none⟩))) :
    Calls Yba.prog 27 #[.pointer (some ⟨gt, 0, none⟩), .agg (idv (idk k))] w fun e w' => e = .returned (lptr lp r) ∧ Below w.heap.size w w' := by
  have hgt := World.block_lt_of_cell? w _ h22
  have LG : 0 < n → gL < w.heap.size := fun h0 => World.block_lt_of_cell? w _ (hL 0 h0)
  go_enter Yba.func27, Yba.ntmps27
  go_upto_region 1 with fail
  have bw : Below w.heap.size w (w.alloc (.cells (idv (idk k)) 30)) := (Below.refl _ _).alloc (Nat.le_refl _) _
  have hb := al_new w (.cells (idv (idk k)) 30) _ rfl
  replace h22 := (bw.cell (p := ⟨gt, 22, none⟩) hgt).trans h22
  replace h23 := (bw.cell (p := ⟨gt, 23, none⟩) hgt).trans h23
  replace hI : ∀ i, i < n → (w.alloc (.cells (idv (idk k)) 30)).rangeAt gI (i * 16) (idv (idk (ks.getD i 0))).toList := fun i hi => rangeAt_below (hI i hi) bw hgI
  replace hL : ∀ i, i < n → (w.alloc (.cells (idv (idk k)) 30)).cell? ⟨gL, i, none⟩ = some (.pointer (some ⟨lp.getD i 0, 0, none⟩)) := fun i hi => (bw.cell (p := ⟨gL, i, none⟩) (LG (by omega))).trans (hL i hi)
  have hgI2 : gI < (w.alloc (.cells (idv (idk k)) 30)).heap.size := by have := bw.size; omega
  generalize hg : w.heap.size = g at *
  generalize (w.alloc (.cells (idv (idk k)) 30)) = w1 at *
  have HI : Hid _ := hI
  have HL : Hid _ := hL
  have HF : Hid (Fst ks k r) := hF
  clear hI hL hF LG
  go_wp2_with fail
  go_loopw [11] (fun i wx => ∃ j : Nat, j ≤ n ∧ i = .int .i64 j ∧ Hid (∀ t, t < j → ks.getD t 0 ≠ k) ∧ ∃ nq, wx = w1.drewN nq) (fun i _ => n - (intOf i).toNat)
  case atStart => exact ⟨0, Nat.zero_le _, rfl, fun t ht => by omega, 0, rfl⟩
  case round =>
    obtain ⟨j, hj, rfl, HJ, nq, rfl⟩ := hrel
    by_cases hlt : j < n
    · have hx : (Lit.int .u8 (ks.getD j 0)).wf = true := by
        rw [List.getD_eq_getElem?_getD, List.getElem?_eq_getElem (by omega)]; exact hks _ (List.getElem_mem _)
      have hr2 := HI.out j hlt
      have hl2 := HL.out j hlt
      have E := eql30 (idk_id hx) (idk_id hk)
      generalize hxx : ks.getD j 0 = x at *
      have LD1 : ∀ wx, (∃ m, wx = (w1.drewN nq).drewN m) → (Instr.loadAt 30 (.pointer (some ⟨gI, j * 16, none⟩))).run Yba.prog wx = .ok (.agg (idv (idk x))) wx := by
        rintro _ ⟨m, rfl⟩
        exact load_many (B := w1.heap.size) hr2 ⟨rfl, rfl, rfl, Nat.le_refl _, fun _ _ => rfl⟩ hgI2 Yba.underlying30 rfl (info30l rfl)
      have LD2 : ∀ wx, (∃ m, wx = (w1.drewN nq).drewN m) → (Instr.loadAt 30 (.pointer (some ⟨g, 0, none⟩))).run Yba.prog wx = .ok (.agg (idv (idk k))) wx := by
        rintro _ ⟨m, rfl⟩
        exact load_many (B := w1.heap.size) (range_of_block hb 0 _ (fun j v hv => by simpa using hv)) ⟨rfl, rfl, rfl, Nat.le_refl _, fun _ _ => rfl⟩ (Array.getElem?_eq_some_iff.1 hb).1 Yba.underlying30 rfl (info30l rfl)
      rw [idk_dec] at E
      clear hr2 hb
      by_cases e : x = k
      · rw [show decide (x = k) = true by simpa using e] at E
        have hr : r = some j := by
          have hF := HF.out
          cases r with
          | none => exact absurd (hxx.trans e) (hF j (by omega))
          | some i =>
            rcases Nat.lt_trichotomy i j with h | h | h
            · exact absurd hF.2.1 (HJ.out i h)
            · rw [h]
            · exact absurd (hxx.trans e) (hF.2.2 j h)
        have HE : Hid (x = k) := e
        clear e hxx
        subst hr
        go_wp2_with fail
        refine wp_region_quiet_lit (by kernel_rfl) (by kernel_rfl) ?_
        repeat (first
          | (go_big_quiet_want; refine quiet_load 30 (.tmp 19) (by rfl) (.pointer (some ⟨gI, j * 16, none⟩)) (.agg (idv (idk x))) (by rfl) LD1 ?_; go_big_quiet_on; go_frame)
          | (go_big_quiet_want; refine quiet_load 30 (.tmp 3) (by rfl) (.pointer (some ⟨g, 0, none⟩)) (.agg (idv (idk k))) (by rfl) LD2 ?_; go_big_quiet_on; go_frame)
          | go_big_quiet_step (fail))
        refine wpQuiet_nil ?_
        rintro _ ⟨nq2, rfl⟩
        clear LD1 LD2 HI HL HF HJ
        have bq : Below g w (w1.drewN (nq + nq2)) := ⟨bw.os, bw.tape, bw.output, bw.size, bw.block⟩
        go_wp2_with fail
        go_ret
        exact ⟨rfl, by rw [hg]; exact bq⟩
      · rw [show decide (x = k) = false by simpa using e] at E
        have HJ2 : Hid (∀ t, t < j + 1 → ks.getD t 0 ≠ k) := by
          intro t ht
          rcases Nat.lt_succ_iff_lt_or_eq.1 ht with h | h
          · exact HJ.out t h
          · subst h; rw [hxx]; exact e
        clear e hxx HJ
        go_wp2_with fail
        refine wp_region_quiet_lit (by kernel_rfl) (by kernel_rfl) ?_
        repeat (first
          | (go_big_quiet_want; refine quiet_load 30 (.tmp 19) (by rfl) (.pointer (some ⟨gI, j * 16, none⟩)) (.agg (idv (idk x))) (by rfl) LD1 ?_; go_big_quiet_on; go_frame)
          | (go_big_quiet_want; refine quiet_load 30 (.tmp 3) (by rfl) (.pointer (some ⟨g, 0, none⟩)) (.agg (idv (idk k))) (by rfl) LD2 ?_; go_big_quiet_on; go_frame)
          | go_big_quiet_step (fail))
        refine wpQuiet_nil ?_
        rintro _ ⟨nq2, rfl⟩
        clear LD1 LD2 HI HL HF
        go_wp2_with fail
        go_roundw
        case rel => exact ⟨j + 1, by omega, by go_num, HJ2, nq + nq2, rfl⟩
        case measure => simp [intOf]; omega
    · have hr : r = none := by
        have hF := HF.out
        cases r with
        | none => rfl
        | some i => exact absurd hF.2.1 (HJ.out i (by have := hF.1; omega))
      subst hr
      have bq : Below g w (w1.drewN nq) := ⟨bw.os, bw.tape, bw.output, bw.size, bw.block⟩
      clear HI HL HF HJ
      go_wp2_with fail
      go_ret
      exact ⟨rfl, by rw [hg]; exact bq⟩
end Go.Proofs.Ybulkdwxc

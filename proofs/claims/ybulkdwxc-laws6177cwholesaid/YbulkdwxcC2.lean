/-
  6177C: a link's cells; linkOf.
-/
import Derived.Test.YbulkdwxcC1
namespace Go.Proofs.Ybulkdwxc
open Go.RowKit Go.Maps Go.Sort

/-- A link of the law's: key, port, route block, confirmed, sent, ping, back, the member's last ping back. -/
def lnkC (k p : Int) (rt : Nat) (cn cs sn ss p0 p1 p2 q0 q1 q2 lb : Int) : List Value :=
  [.int .u8 k, .int .u8 0, .int .u8 0, .int .u8 0, .int .u8 0, .int .u8 0, .int .u8 0, .int .u8 0, .int .u8 0, .int .u8 0, .int .u8 0, .int .u8 0, .int .u8 0, .int .u8 0, .int .u8 0, .int .u8 0,
   .int .u64 0, .int .u64 0, .pointer none, .int .u16 p, .slice (some ⟨rt, 0, none⟩) 1 1, .int .u64 0, .int .i64 0, .pointer none, .int .u64 cn, .int .i64 cs, .pointer none, .int .u64 sn, .int .i64 ss, .pointer none,
   .int .u64 p0, .int .u64 p1, .int .i64 p2, .pointer none, .slice (some ⟨rt, 0, none⟩) 1 1, .int .u64 q0, .int .u64 q1, .int .i64 q2, .pointer none, .slice (some ⟨rt, 0, none⟩) 1 1, .int .u64 lb,
   .bool false, .int .u64 0, .int .u64 0, .int .i64 0, .pointer none, .int .u64 0, .int .i64 0, .pointer none, .int .i64 0, .map none, .int .u64 0, .int .i64 0, .pointer none, .slice none 0 0, .int .u64 0, .int .u64 0, .int .u64 0, .slice none 0 0]

theorem range_part {w : World} {b o o' : Nat} {cs ds : List Value} (h : w.rangeAt b o cs) (hd : ∀ j v, ds[j]? = some v → cs[o' + j]? = some v) : w.rangeAt b (o + o') ds :=
  fun j v hv => by rw [Nat.add_assoc]; exact h _ _ (hd j v hv)

theorem lnkC_peer {w : World} {b : Nat} {k p : Int} {rt : Nat} {cn cs sn ss p0 p1 p2 q0 q1 q2 lb : Int} (h : w.rangeAt b 0 (lnkC k p rt cn cs sn ss p0 p1 p2 q0 q1 q2 lb)) : w.rangeAt b 0 (peerP (idk k) p).toList :=
  fun j v hv => h j v (by
    have hj := (List.getElem?_eq_some_iff.1 hv).1
    have e : lnkC k p rt cn cs sn ss p0 p1 p2 q0 q1 q2 lb = (peerP (idk k) p).toList ++ (lnkC k p rt cn cs sn ss p0 p1 p2 q0 q1 q2 lb).drop 20 := rfl
    rw [e, List.getElem?_append_left hj]; exact hv)

/-- The link that linkOf hands back. -/
def lof (pt : List Int) (p : Int) (r : Option Nat) : Option Nat :=
  match r with
  | none => none
  | some i => if pt.getD i 0 = p then some i else none

set_option maxRecDepth 100000 in
set_option maxHeartbeats 1000000 in
theorem linkOf_any (gt gI gL n : Nat) (ks pt : List Int) (lp : List Nat) (k p : Int) (r : Option Nat) (hk : (Lit.int .u8 k).wf = true) (hks : ∀ x ∈ ks, (Lit.int .u8 x).wf = true) (hl : ks.length = n) (hn : n ≤ 65536) (hF : Fst ks k r)
    (w : World) (h22 : w.cell? ⟨gt, 22, none⟩ = some (.slice (some ⟨gL, 0, none⟩) n n)) (h23 : w.cell? ⟨gt, 23, none⟩ = some (.slice (some ⟨gI, 0, none⟩) n n))
    (hI : ∀ i, i < n → w.rangeAt gI (i * 16) (idv (idk (ks.getD i 0))).toList) (hgI : gI < w.heap.size) (hL : ∀ i, i < n → w.cell? ⟨gL, i, none⟩ = some (.pointer (some ⟨lp.getD i 0, 0, none⟩)))
    (hP : ∀ i, i < n → w.rangeAt (lp.getD i 0) 0 (peerP (idk (ks.getD i 0)) (pt.getD i 0)).toList ∧ lp.getD i 0 < w.heap.size) :
    Calls Yba.prog 22 #[.pointer (some ⟨gt, 0, none⟩), .agg (peerP (idk k) p)] w fun e w' => e = .returned (lptr lp (lof pt p r)) ∧ Below w.heap.size w w' := by
  have hgt := World.block_lt_of_cell? w _ h22
  have LG : 0 < n → gL < w.heap.size := fun h0 => World.block_lt_of_cell? w _ (hL 0 h0)
  go_enter Yba.func22, Yba.ntmps22
  go_upto_region 1 with fail
  have bw : Below w.heap.size w (w.alloc (.cells (peerP (idk k) p) 46)) := (Below.refl _ _).alloc (Nat.le_refl _) _
  have hb := al_new w (.cells (peerP (idk k) p) 46) _ rfl
  have hz := al_size w (.cells (peerP (idk k) p) 46)
  have BY := byID_any gt gI gL n ks lp k r hk hks hl hn hF (w.alloc (.cells (peerP (idk k) p) 46)) ((bw.cell (p := ⟨gt, 22, none⟩) hgt).trans h22) ((bw.cell (p := ⟨gt, 23, none⟩) hgt).trans h23)
    (fun i hi => rangeAt_below (hI i hi) bw hgI) (by omega) (fun i hi => (bw.cell (p := ⟨gL, i, none⟩) (LG (by omega))).trans (hL i hi))
  have hr1 : (w.alloc (.cells (peerP (idk k) p) 46)).rangeAt w.heap.size 0 (idv (idk k)).toList := range_of_block hb 0 _ (fun j v hv => by
    have hj := (List.getElem?_eq_some_iff.1 hv).1
    have e : (peerP (idk k) p).toList = (idv (idk k)).toList ++ (peerP (idk k) p).toList.drop 16 := rfl
    rw [Nat.zero_add, ← Array.getElem?_toList, e, List.getElem?_append_left hj]; exact hv)
  clear hI hL LG h22 h23
  go_upto_region 2 with (first
    | (refine wpList_load_mid (by rfl) 30 (.tmp 7) (by rfl) w.heap.size 0 (by rfl) (idv (idk k)).toList _ hr1 Yba.underlying30 (by rfl) (info30l rfl) ?_)
    | (go_at_call 27; refine BY.mono ?_; rintro e w2 ⟨rfl, hb2⟩))
  have bw2 : Below w.heap.size w w2 := below_more bw (Nat.le_refl _) hb2
  have hb3 := kept hb2 hb
  have hP2 : ∀ i, r = some i → w2.rangeAt (lp.getD i 0) 0 (peerP (idk k) (pt.getD i 0)).toList ∧ lp.getD i 0 < w2.heap.size := by
    intro i hi
    rw [hi] at hF
    have h := hP i (by rw [← hl]; exact hF.1)
    rw [hF.2.1] at h
    exact ⟨rangeAt_below h.1 bw2 h.2, by have := bw2.size; omega⟩
  generalize hg : w.heap.size = g at *
  clear BY hr1 hb hP hF hb2 bw hz
  cases r with
  | none =>
    simp only [lptr]
    refine wp_region_quiet_below (by kernel_rfl) (by kernel_rfl) ?_
    repeat (go_big_quiet_step (fail))
    refine wpQuiet_nil ?_
    rintro _ ⟨⟨dq, oq⟩, rfl⟩
    have bq := below_more bw2 (by omega) (below_regrown w2 dq oq)
    clear hb3 hP2
    go_wp2_with fail
    go_ret
    exact ⟨rfl, by rw [hg]; exact bq⟩
  | some i =>
    obtain ⟨hr3, hlt⟩ := hP2 i rfl
    have C1 : ∀ d os, Calls Yba.prog 26 #[.pointer (some ⟨lp.getD i 0, 0, none⟩)] (grow (redrawn w2 d) os) fun e w'' => e = .returned (.agg (peerP (idk k) (pt.getD i 0))) ∧ ∃ p : Regrown, w'' = grow (redrawn w2 p.d) p.os :=
      fun d os => Calls.regrown_of (member_any _ _ (peerP_size rfl _) (peerP_one rfl _) _ (rangeAt_below hr3 (below_regrown w2 d os) hlt) (by have := (below_regrown w2 d os).size; omega))
    have LD : ∀ wx, (∃ p : Regrown, wx = grow (redrawn w2 p.d) p.os) → (Instr.loadAt 46 (.pointer (some ⟨g, 0, none⟩))).run Yba.prog wx = .ok (.agg (peerP (idk k) p)) wx := by
      rintro _ ⟨q, rfl⟩
      exact load_many (range_of_block hb3 0 _ (fun j v hv => by simpa using hv)) (below_regrown w2 q.d q.os) (Array.getElem?_eq_some_iff.1 hb3).1 Yba.underlying46 rfl (info46l _ (peerP_size rfl _))
    have E := neq46 hk (pt.getD i 0) p
    simp only [lptr]
    have HLOF : Hid (lof pt p (some i) = if pt.getD i 0 = p then some i else none) := rfl
    generalize hX : peerP (idk k) (pt.getD i 0) = X at *
    generalize hY : peerP (idk k) p = Y at *
    generalize hl3 : lp.getD i 0 = gl at *
    generalize pt.getD i 0 = pi at *
    clear hb3 hP2 hr3 hX hY
    by_cases e : pi = p
    · rw [show (!decide (pi = p)) = false by simp [e]] at E
      rw [if_pos e] at HLOF
      have HE : Hid (pi = p) := e
      clear e
      refine wp_region_quiet_below (by kernel_rfl) (by kernel_rfl) ?_
      repeat (first
        | (go_big_quiet_want; refine quiet_load 46 (.tmp 3) (by rfl) (.pointer (some ⟨g, 0, none⟩)) (.agg Y) (by rfl) LD ?_; go_big_quiet_on; go_frame)
        | go_big_quiet_step (with_reducible exact C1 _ _))
      refine wpQuiet_nil ?_
      rintro _ ⟨⟨dq, oq⟩, rfl⟩
      have bq := below_more bw2 (by omega) (below_regrown w2 dq oq)
      clear C1 LD
      go_wp2_with fail
      go_ret
      exact ⟨by rw [HLOF.out, lptr, hl3]; rfl, by rw [hg]; exact bq⟩
    · rw [show (!decide (pi = p)) = true by simp [e]] at E
      rw [if_neg e] at HLOF
      clear e
      refine wp_region_quiet_below (by kernel_rfl) (by kernel_rfl) ?_
      repeat (first
        | (go_big_quiet_want; refine quiet_load 46 (.tmp 3) (by rfl) (.pointer (some ⟨g, 0, none⟩)) (.agg Y) (by rfl) LD ?_; go_big_quiet_on; go_frame)
        | go_big_quiet_step (with_reducible exact C1 _ _))
      refine wpQuiet_nil ?_
      rintro _ ⟨⟨dq, oq⟩, rfl⟩
      have bq := below_more bw2 (by omega) (below_regrown w2 dq oq)
      clear C1 LD
      go_wp2_with fail
      go_ret
      exact ⟨by rw [HLOF.out]; rfl, by rw [hg]; exact bq⟩
end Go.Proofs.Ybulkdwxc

import Derived.Test.YbulkdwxcTime
import Derived.Deep.DeepCutAuto
namespace Go.Proofs.Ybulkdwxc
open Go.RowKit

/-- Two times are one · the first lies before the second. -/
def eqT (ns s ns' s' : Int) : Bool := decide (s = s' ∧ ns = ns')
def bfT (ns s ns' s' : Int) : Bool := decide (s < s' ∨ (s = s' ∧ ns < ns'))

theorem two_boxes {w : World} {a b : Array Value} {t : TypeId} : Below w.heap.size w ((w.alloc (.cells a t)).alloc (.cells b t)) := ((Below.refl _ _).alloc (Nat.le_refl _) _).alloc (by simp) _

set_option maxRecDepth 100000 in
set_option maxHeartbeats 400000 in
theorem equal_any (ns s ns' s' : Int) (h0 : 0 ≤ ns) (h1 : ns < 1000000000) (h0' : 0 ≤ ns') (h1' : ns' < 1000000000) (w : World) :
    Calls Yba.prog 8 #[.agg #[.int .u64 ns, .int .i64 s, .pointer none], .agg #[.int .u64 ns', .int .i64 s', .pointer none]] w fun e w' => e = .returned (.bool (eqT ns s ns' s')) ∧ Below w.heap.size w w' := by
  have b1 := and_both ns ns' h0 (by omega) h0' (by omega)
  by_cases hs : s = s'
  · subst hs
    by_cases hn : ns = ns'
    · subst hn
      have E : Hid (eqT ns s ns s = true) := by show _ = _; simp [eqT]
      go_enter Yba.func8, Yba.ntmps8
      go_wp2_with fail
      refine (sec_any _ ns s h0 h1 _ ?_ ?_).mono ?_
      · go_simp
      · go_simp
      rintro e w1 ⟨rfl, rfl⟩
      go_wp2_with fail
      refine (sec_any _ ns s h0 h1 _ ?_ ?_).mono ?_
      · go_simp
      · go_simp
      rintro e w1 ⟨rfl, rfl⟩
      go_wp2_with fail
      refine (nsec_any _ ns h0 h1 _ ?_).mono ?_
      · go_simp
      rintro e w1 ⟨rfl, rfl⟩
      go_wp2_with fail
      refine (nsec_any _ ns h0 h1 _ ?_).mono ?_
      · go_simp
      rintro e w1 ⟨rfl, rfl⟩
      go_wp2_with fail
      go_ret
      exact ⟨by rw [E.out]; rfl, two_boxes⟩
    · have E : Hid (eqT ns s ns' s = false) := by show _ = _; simp [eqT, hn]
      have hb : (ns == ns') = false := by simp [hn]
      go_enter Yba.func8, Yba.ntmps8
      go_wp2_with fail
      refine (sec_any _ ns s h0 h1 _ ?_ ?_).mono ?_
      · go_simp
      · go_simp
      rintro e w1 ⟨rfl, rfl⟩
      go_wp2_with fail
      refine (sec_any _ ns' s h0' h1' _ ?_ ?_).mono ?_
      · go_simp
      · go_simp
      rintro e w1 ⟨rfl, rfl⟩
      go_wp2_with fail
      refine (nsec_any _ ns h0 h1 _ ?_).mono ?_
      · go_simp
      rintro e w1 ⟨rfl, rfl⟩
      go_wp2_with fail
      refine (nsec_any _ ns' h0' h1' _ ?_).mono ?_
      · go_simp
      rintro e w1 ⟨rfl, rfl⟩
      go_wp2_with fail
      go_ret
      exact ⟨by rw [E.out]; rfl, two_boxes⟩
  · have E : Hid (eqT ns s ns' s' = false) := by show _ = _; simp [eqT, hs]
    have hb : (s == s') = false := by simp [hs]
    go_enter Yba.func8, Yba.ntmps8
    go_wp2_with fail
    refine (sec_any _ ns s h0 h1 _ ?_ ?_).mono ?_
    · go_simp
    · go_simp
    rintro e w1 ⟨rfl, rfl⟩
    go_wp2_with fail
    refine (sec_any _ ns' s' h0' h1' _ ?_ ?_).mono ?_
    · go_simp
    · go_simp
    rintro e w1 ⟨rfl, rfl⟩
    go_wp2_with fail
    go_ret
    exact ⟨by rw [E.out]; rfl, two_boxes⟩

set_option maxRecDepth 100000 in
set_option maxHeartbeats 400000 in
theorem before_any (ns s ns' s' : Int) (h0 : 0 ≤ ns) (h1 : ns < 1000000000) (h0' : 0 ≤ ns') (h1' : ns' < 1000000000) (w : World) :
    Calls Yba.prog 25 #[.agg #[.int .u64 ns, .int .i64 s, .pointer none], .agg #[.int .u64 ns', .int .i64 s', .pointer none]] w fun e w' => e = .returned (.bool (bfT ns s ns' s')) ∧ Below w.heap.size w w' := by
  have b1 := and_both ns ns' h0 (by omega) h0' (by omega)
  by_cases hs : s < s'
  · have E : Hid (bfT ns s ns' s' = true) := by show _ = _; simp [bfT, hs]
    go_enter Yba.func25, Yba.ntmps25
    go_wp2_with fail
    refine (sec_any _ ns s h0 h1 _ ?_ ?_).mono ?_
    · go_simp
    · go_simp
    rintro e w1 ⟨rfl, rfl⟩
    go_wp2_with fail
    refine (sec_any _ ns' s' h0' h1' _ ?_ ?_).mono ?_
    · go_simp
    · go_simp
    rintro e w1 ⟨rfl, rfl⟩
    go_wp2_with fail
    go_ret
    exact ⟨by rw [E.out]; rfl, two_boxes⟩
  · have hd : decide (s < s') = false := by simpa using hs
    by_cases he : s = s'
    · subst he
      have E : Hid (bfT ns s ns' s = decide (ns < ns')) := by show _ = _; simp [bfT]
      go_enter Yba.func25, Yba.ntmps25
      go_wp2_with fail
      refine (sec_any _ ns s h0 h1 _ ?_ ?_).mono ?_
      · go_simp
      · go_simp
      rintro e w1 ⟨rfl, rfl⟩
      go_wp2_with fail
      refine (sec_any _ ns' s h0' h1' _ ?_ ?_).mono ?_
      · go_simp
      · go_simp
      rintro e w1 ⟨rfl, rfl⟩
      go_wp2_with fail
      refine (nsec_any _ ns h0 h1 _ ?_).mono ?_
      · go_simp
      rintro e w1 ⟨rfl, rfl⟩
      go_wp2_with fail
      refine (nsec_any _ ns' h0' h1' _ ?_).mono ?_
      · go_simp
      rintro e w1 ⟨rfl, rfl⟩
      go_wp2_with fail
      go_ret
      exact ⟨by rw [E.out]; rfl, two_boxes⟩
    · have E : Hid (bfT ns s ns' s' = false) := by show _ = _; simp [bfT, he]; omega
      have hb : (s == s') = false := by simp [he]
      go_enter Yba.func25, Yba.ntmps25
      go_wp2_with fail
      refine (sec_any _ ns s h0 h1 _ ?_ ?_).mono ?_
      · go_simp
      · go_simp
      rintro e w1 ⟨rfl, rfl⟩
      go_wp2_with fail
      refine (sec_any _ ns' s' h0' h1' _ ?_ ?_).mono ?_
      · go_simp
      · go_simp
      rintro e w1 ⟨rfl, rfl⟩
      go_wp2_with fail
      go_ret
      exact ⟨by rw [E.out]; rfl, two_boxes⟩

/-- How far the first lies behind the second, in nanoseconds; and cut to what a Duration holds. -/
def far (ns s ns' s' : Int) : Int := (s - s') * 1000000000 + (ns - ns')
def subT (ns s ns' s' : Int) : Int :=
  if -9223372036854775808 ≤ far ns s ns' s' ∧ far ns s ns' s' ≤ 9223372036854775807 then far ns s ns' s' else if bfT ns s ns' s' = true then -9223372036854775808 else 9223372036854775807

theorem diff_wraps (ns s ns' s' : Int) : ∃ d, wrap64 (wrap64 ((s - s') * 1000000000) + (ns - ns')) = d ∧ -9223372036854775808 ≤ d ∧ d ≤ 9223372036854775807 ∧
    (-9223372036854775808 ≤ far ns s ns' s' ∧ far ns s ns' s' ≤ 9223372036854775807 → d = far ns s ns' s') ∧ (¬ (-9223372036854775808 ≤ far ns s ns' s' ∧ far ns s ns' s' ≤ 9223372036854775807) → d ≠ far ns s ns' s') := by
  refine ⟨_, rfl, ?_, ?_, ?_, ?_⟩
  · unfold wrap64; omega
  · unfold wrap64; omega
  all_goals (unfold wrap64 far; omega)

/-- Two boxes of a time each, still there behind a call that makes memory alone. -/
theorem boxes_on {w w2 : World} {a0 a1 a2 b0 b1 b2 : Value} {t : TypeId} (hb : Below (w.heap.size + 2) ((w.alloc (.cells #[a0, a1, a2] t)).alloc (.cells #[b0, b1, b2] t)) w2) :
    Below w.heap.size w w2 ∧ (w2.cell? ⟨w.heap.size, 0, none⟩ = some a0 ∧ w2.cell? ⟨w.heap.size, 1, none⟩ = some a1 ∧ w2.cell? ⟨w.heap.size, 2, none⟩ = some a2) ∧
      (w2.cell? ⟨w.heap.size + 1, 0, none⟩ = some b0 ∧ w2.cell? ⟨w.heap.size + 1, 1, none⟩ = some b1 ∧ w2.cell? ⟨w.heap.size + 1, 2, none⟩ = some b2) ∧ w.heap.size + 2 ≤ w2.heap.size := by
  have e1 : ∀ j, w2.cell? ⟨w.heap.size, j, none⟩ = #[a0, a1, a2][j]? := fun j => by
    rw [hb.cell (p := ⟨w.heap.size, j, none⟩) (by simp), World.cell?_alloc_past (hn := by simp)]
    exact cell_of_row _ _ _ _ _ _ (heap_alloc_new w _)
  have e2 : ∀ j, w2.cell? ⟨w.heap.size + 1, j, none⟩ = #[b0, b1, b2][j]? := fun j => by
    rw [hb.cell (p := ⟨w.heap.size + 1, j, none⟩) (by simp)]
    have := heap_alloc_new (w.alloc (.cells #[a0, a1, a2] t)) (.cells #[b0, b1, b2] t)
    rw [World.size_alloc] at this
    exact cell_of_row _ _ _ _ _ _ this
  exact ⟨two_boxes.trans (hb.mono (by omega)), ⟨e1 0, e1 1, e1 2⟩, ⟨e2 0, e2 1, e2 2⟩, by have := hb.size; simp at this; omega⟩

set_option maxRecDepth 100000 in
set_option maxHeartbeats 800000 in
theorem sub_any (ns s ns' s' : Int) (h0 : 0 ≤ ns) (h1 : ns < 1000000000) (h0' : 0 ≤ ns') (h1' : ns' < 1000000000) (hs : -100000000000 ≤ s ∧ s ≤ 100000000000) (hs' : -100000000000 ≤ s' ∧ s' ≤ 100000000000) (w : World) :
    Calls Yba.prog 13 #[.agg #[.int .u64 ns, .int .i64 s, .pointer none], .agg #[.int .u64 ns', .int .i64 s', .pointer none]] w fun e w' => e = .returned (.int .i64 (subT ns s ns' s')) ∧ Below w.heap.size w w' := by
  have b1 := and_both ns ns' h0 (by omega) h0' (by omega)
  obtain ⟨d, hd, hd1, hd2, hin, hout⟩ := diff_wraps ns s ns' s'
  have EE : Hid ((-9223372036854775808 ≤ far ns s ns' s' ∧ far ns s ns' s' ≤ 9223372036854775807 → d = far ns s ns' s') ∧ (¬ (-9223372036854775808 ≤ far ns s ns' s' ∧ far ns s ns' s' ≤ 9223372036854775807) → d ≠ far ns s ns' s')) := ⟨hin, hout⟩
  clear hin hout
  go_enter Yba.func13, Yba.ntmps13
  go_wp2_with fail
  refine (sec_any _ ns s h0 h1 _ ?_ ?_).mono ?_
  · go_simp
  · go_simp
  rintro e w1 ⟨rfl, rfl⟩
  go_wp2_with fail
  refine (sec_any _ ns' s' h0' h1' _ ?_ ?_).mono ?_
  · go_simp
  · go_simp
  rintro e w1 ⟨rfl, rfl⟩
  go_wp2_with fail
  refine (nsec_any _ ns h0 h1 _ ?_).mono ?_
  · go_simp
  rintro e w1 ⟨rfl, rfl⟩
  go_wp2_with fail
  refine (nsec_any _ ns' h0' h1' _ ?_).mono ?_
  · go_simp
  rintro e w1 ⟨rfl, rfl⟩
  go_upto_region 5 with fail
  rw [hd]
  clear hd
  go_cut [27] (fun b wx => b = .bool (eqT ((ns' + d) % 1000000000) (s' + (ns' + d) / 1000000000) ns s) ∧ Below w.heap.size w wx ∧ (wx.cell? ⟨w.heap.size, 0, none⟩ = some (.int .u64 ns) ∧ wx.cell? ⟨w.heap.size, 1, none⟩ = some (.int .i64 s) ∧ wx.cell? ⟨w.heap.size, 2, none⟩ = some (.pointer none)) ∧
      (wx.cell? ⟨w.heap.size + 1, 0, none⟩ = some (.int .u64 ns') ∧ wx.cell? ⟨w.heap.size + 1, 1, none⟩ = some (.int .i64 s') ∧ wx.cell? ⟨w.heap.size + 1, 2, none⟩ = some (.pointer none)))
  case first =>
    have BO := fun (w2 : World) (h : Below (w.heap.size + 2) ((w.alloc (.cells #[.int .u64 ns, .int .i64 s, .pointer none] 29)).alloc (.cells #[.int .u64 ns', .int .i64 s', .pointer none] 29)).drew w2) => boxes_on (w := w) (w2 := w2) (a0 := .int .u64 ns) (a1 := .int .i64 s) (a2 := .pointer none) (b0 := .int .u64 ns') (b1 := .int .i64 s') (b2 := .pointer none) (t := 29) ⟨h.os, h.tape, h.output, h.size, h.block⟩
    go_region_with (first
      | (go_at_call 10; refine (add_any ns' s' d h0' h1' (by omega) ⟨hd1, hd2⟩ _).mono ?_; rintro e w1 ⟨rfl, hb1⟩; have hb1 : Below (w.heap.size + 2) ((w.alloc (.cells #[.int .u64 ns, .int .i64 s, .pointer none] 29)).alloc (.cells #[.int .u64 ns', .int .i64 s', .pointer none] 29)).drew w1 := (by simpa using hb1); obtain ⟨bb, ⟨x0, x1, x2⟩, ⟨y0, y1, y2⟩, hz⟩ := BO w1 hb1)
      | (go_at_call 8; refine (equal_any _ _ ns s (by omega) (by omega) h0 h1 _).mono ?_; rintro e w2 ⟨rfl, hb2⟩))
    all_goals go_wp2_with fail
    all_goals go_meet
    all_goals exact ⟨rfl, (BO w2 (hb1.trans (hb2.mono hz))).1, (BO w2 (hb1.trans (hb2.mono hz))).2.1, (BO w2 (hb1.trans (hb2.mono hz))).2.2.1⟩
  case rest =>
    obtain ⟨rfl, bw, ⟨x0, x1, x2⟩, ⟨y0, y1, y2⟩⟩ := hcut
    by_cases hr : -9223372036854775808 ≤ far ns s ns' s' ∧ far ns s ns' s' ≤ 9223372036854775807
    · have e1 := EE.out.1 hr
      have e2 : eqT ((ns' + d) % 1000000000) (s' + (ns' + d) / 1000000000) ns s = true := by
        unfold eqT; unfold far at e1; simp; omega
      have E : Hid (subT ns s ns' s' = d) := by show _ = _; unfold subT; rw [if_pos hr, e1]
      rw [e2]
      clear e1 e2 EE hr
      go_wp2_with fail
      go_ret
      exact ⟨by rw [E.out]; rfl, bw⟩
    · have e1 := EE.out.2 hr
      have e2 : eqT ((ns' + d) % 1000000000) (s' + (ns' + d) / 1000000000) ns s = false := by
        unfold eqT; unfold far at e1; simp; omega
      rw [e2]
      by_cases hb : bfT ns s ns' s' = true
      · have E : Hid (subT ns s ns' s' = -9223372036854775808) := by show _ = _; unfold subT; rw [if_neg hr, if_pos hb]
        clear e1 e2 EE hr
        go_wp2_with fail
        refine (before_any ns s ns' s' h0 h1 h0' h1' _).mono ?_
        rintro e w3 ⟨rfl, hb3⟩
        rw [hb]
        go_wp2_with fail
        go_ret
        exact ⟨by rw [E.out]; rfl, bw.trans (hb3.mono bw.size)⟩
      · have hb : bfT ns s ns' s' = false := by simpa using hb
        have E : Hid (subT ns s ns' s' = 9223372036854775807) := by show _ = _; unfold subT; rw [if_neg hr, if_neg (by rw [hb]; decide)]
        clear e1 e2 EE hr
        go_wp2_with fail
        refine (before_any ns s ns' s' h0 h1 h0' h1' _).mono ?_
        rintro e w3 ⟨rfl, hb3⟩
        rw [hb]
        go_wp2_with fail
        go_ret
        exact ⟨by rw [E.out]; rfl, bw.trans (hb3.mono bw.size)⟩

end Go.Proofs.Ybulkdwxc

/-
  6178A: the merge at equal orders: nothing turns.
-/
import Derived.Test.YbulkdwxqS2
namespace Go.Proofs.Ybulkdwxq
open Go.RowKit Go.Sort

/-- What the comparison of two suspects wants of the world. -/
theorem cmp_facts {w wr : World} {g n cap : Nat} {V : Nat → Int} {ra : Nat → Option Addr} {rl rc : Nat → Nat} (h : Sus w g n V ra rl rc) (hb : Below w.heap.size w wr) {x y : Nat} (hx : x < n) (hy : y < n) :
    ∃ A1 A2 : Array Value, (∀ wx, (∃ p : Regrown, wx = grow (redrawn wr p.d) p.os) → (Instr.loadAt 48 (.pointer (some ⟨g, x * 3, none⟩))).run Yba.prog wx = .ok (.agg A1) wx) ∧
      (∀ wx, (∃ p : Regrown, wx = grow (redrawn wr p.d) p.os) → (Instr.loadAt 48 (.pointer (some ⟨g, y * 3, none⟩))).run Yba.prog wx = .ok (.agg A2) wx) ∧
      (∀ d os, Calls Yba.prog 9 #[.agg A1, .agg A2] (grow (redrawn wr d) os) fun e w'' => e = .returned (.int .i64 0) ∧ ∃ p : Regrown, w'' = grow (redrawn wr p.d) p.os) ∧
      (∀ d os, Hid (Below w.heap.size w (grow (redrawn wr d) os))) ∧
      (∀ wx, (Instr.indexAt 45 (.slice (some ⟨g, 0, none⟩) n cap) (.int .i64 (x : Int))).run Yba.prog wx = .ok (.pointer (some ⟨g, x * 3, none⟩)) wx) ∧
      (∀ wx, (Instr.indexAt 45 (.slice (some ⟨g, 0, none⟩) n cap) (.int .i64 (y : Int))).run Yba.prog wx = .ok (.pointer (some ⟨g, y * 3, none⟩)) wx) := by
  have h2 := h.below hb
  refine ⟨_, _, ?_, ?_, fun d os => Calls.regrown_of (less_any (V x) (V y) (ra x) (ra y) (rl x) (rc x) (rl y) (rc y) _), fun d os => below_more hb (Nat.le_refl _) (below_regrown wr d os), index45 rfl hx, index45 rfl hy⟩
  · rintro _ ⟨q, rfl⟩; exact (h2.below (below_regrown wr q.d q.os)).load hx
  · rintro _ ⟨q, rfl⟩; exact (h2.below (below_regrown wr q.d q.os)).load hy

set_option maxRecDepth 100000 in
set_option maxHeartbeats 8000000 in
theorem merge_any (g n cap : Nat) (V : Nat → Int) (ra : Nat → Option Addr) (rl rc : Nat → Nat) (hn : n ≤ 1048576) : ∀ (d a m b : Nat), b - a ≤ d → a < m → m < b → b ≤ n → ∀ w, Sus w g n V ra rl rc →
    Calls Yba.prog 16 #[.slice (some ⟨g, 0, none⟩) n cap, .int .i64 a, .int .i64 m, .int .i64 b, .func (.func 9) #[] #[]] w fun e w' => e = .returned (.tuple #[]) ∧ Below w.heap.size w w' := by
  intro d
  induction d with
  | zero => intro a m b h1 h2 h3; omega
  | succ d ih =>
    intro a m b hd ham hmb hbn w h
    have HS : Hid _ := h
    have IH : Hid _ := ih
    clear h ih
    by_cases hma : m = a + 1
    · -- [[one
      have e1 : (m : Int) - (a : Int) = 1 := by omega
      have e2 : (m : Int) - 1 = (a : Int) := by omega
      have HM : Hid _ := hma
      clear hma
      go_enter Yba.func16, Yba.ntmps16
      go_upto_block 0 with fail
      go_wp2_with fail
      go_loopg [10, 11, 12] (b - m) (fun k x y _ wr => ∃ j : Nat, m ≤ j ∧ j ≤ b ∧ k = j - m ∧ x = .int .i64 m ∧ y = .int .i64 j ∧ Hid (Below w.heap.size w wr))
      case atStart => exact ⟨b, by omega, Nat.le_refl _, rfl, rfl, rfl, Below.refl _ _⟩
      case round =>
        obtain ⟨j, hj1, hj2, rfl, rfl, rfl, HB⟩ := hrel
        by_cases hlt : m < j
        · have hlt' : (m : Int) < (j : Int) := by omega
          obtain ⟨t, ht⟩ : ∃ t : Nat, t = (m + j) / 2 := ⟨_, rfl⟩
          have htI : ((m : Int) + (j : Int)) / 2 = (t : Int) := by omega
          have t1 : m ≤ t := by omega
          have t2 : t < j := by omega
          clear ht
          obtain ⟨A1, A2, LD1, LD2, C1, FE, X1, X2⟩ := cmp_facts (cap := cap) HS.out HB.out (x := t) (y := a) (by omega) (by omega)
          go_upto_region 5 with fail
          refine wp_region_quiet_below (by kernel_rfl) (by kernel_rfl) ?_
          repeat (first
            | (go_big_quiet_want; refine quiet_load 48 (.tmp 43) (by rfl) (.pointer (some ⟨g, t * 3, none⟩)) (.agg A1) (by rfl) LD1 ?_; go_big_quiet_on; go_frame)
            | (go_big_quiet_want; refine quiet_load 48 (.tmp 47) (by rfl) (.pointer (some ⟨g, a * 3, none⟩)) (.agg A2) (by rfl) LD2 ?_; go_big_quiet_on; go_frame)
            | go_big_quiet_step (with_reducible exact C1 _ _))
          refine wpQuiet_nil ?_
          rintro _ ⟨⟨dq, oq⟩, rfl⟩
          have HB2 := FE dq oq
          clear C1 LD1 LD2 FE X1 X2
          go_wp2_with fail
          go_roundg (t - m)
          case measure => omega
          case rel => exact ⟨t, t1, by omega, rfl, rfl, rfl, HB2⟩
        · have hlt' : ¬ (m : Int) < (j : Int) := by omega
          go_wp2_with fail
          go_loopg [13] 0 (fun _ s wx => s = .int .i64 a ∧ wx = wr)
          case atStart => exact ⟨rfl, rfl⟩
          case round =>
            obtain ⟨rfl, rfl⟩ := hrel
            go_wp2_with fail
            exact bodyPost_ret (v := .tuple #[]) (by simp [results, Yba.results16, go_sem]) rfl ⟨rfl, HB.out⟩
    · have hma' : ¬ (m : Int) - (a : Int) = 1 := by omega
      by_cases hbm : b = m + 1
      · -- [[two
        have e1 : (b : Int) - (m : Int) = 1 := by omega
        have HM : Hid _ := hbm
        clear hbm
        go_enter Yba.func16, Yba.ntmps16
        go_upto_block 4 with fail
        go_wp2_with fail
        go_loopg [14, 15, 16] (m - a) (fun k x y _ wr => ∃ j : Nat, a ≤ j ∧ j ≤ m ∧ k = m - j ∧ x = .int .i64 j ∧ y = .int .i64 m ∧ Hid (Below w.heap.size w wr))
        case atStart => exact ⟨a, Nat.le_refl _, by omega, rfl, rfl, rfl, Below.refl _ _⟩
        case round =>
          obtain ⟨j, hj1, hj2, rfl, rfl, rfl, HB⟩ := hrel
          by_cases hlt : j < m
          · have hlt' : (j : Int) < (m : Int) := by omega
            obtain ⟨t, ht⟩ : ∃ t : Nat, t = (j + m) / 2 := ⟨_, rfl⟩
            have htI : ((j : Int) + (m : Int)) / 2 = (t : Int) := by omega
            have t1 : j ≤ t := by omega
            have t2 : t < m := by omega
            clear ht
            obtain ⟨A1, A2, LD1, LD2, C1, FE, X1, X2⟩ := cmp_facts (cap := cap) HS.out HB.out (x := m) (y := t) (by omega) (by omega)
            go_upto_region 17 with fail
            refine wp_region_quiet_below (by kernel_rfl) (by kernel_rfl) ?_
            repeat (first
              | (go_big_quiet_want; refine quiet_load 48 (.tmp 95) (by rfl) (.pointer (some ⟨g, m * 3, none⟩)) (.agg A1) (by rfl) LD1 ?_; go_big_quiet_on; go_frame)
              | (go_big_quiet_want; refine quiet_load 48 (.tmp 99) (by rfl) (.pointer (some ⟨g, t * 3, none⟩)) (.agg A2) (by rfl) LD2 ?_; go_big_quiet_on; go_frame)
              | go_big_quiet_step (with_reducible exact C1 _ _))
            refine wpQuiet_nil ?_
            rintro _ ⟨⟨dq, oq⟩, rfl⟩
            have HB2 := FE dq oq
            clear C1 LD1 LD2 FE X1 X2
            go_wp2_with fail
            go_roundg (m - (t + 1))
            case measure => omega
            case rel => exact ⟨t + 1, by omega, by omega, rfl, by go_num, rfl, HB2⟩
          · have hjm : j = m := by omega
            subst hjm
            have hlt' : ¬ (j : Int) < (j : Int) := by omega
            go_wp2_with fail
            go_loopg [17] 0 (fun _ s wx => s = .int .i64 j ∧ wx = wr)
            case atStart => exact ⟨rfl, rfl⟩
            case round =>
              obtain ⟨rfl, rfl⟩ := hrel
              go_wp2_with fail
              exact bodyPost_ret (v := .tuple #[]) (by simp [results, Yba.results16, go_sem]) rfl ⟨rfl, HB.out⟩
      · have hbm' : ¬ (b : Int) - (m : Int) = 1 := by omega
        obtain ⟨q, hq0⟩ : ∃ q : Nat, q = (a + b) / 2 := ⟨_, rfl⟩
        have hqI : ((a : Int) + (b : Int)) / 2 = (q : Int) := by omega
        have HQ : Hid (2 * q ≤ a + b ∧ a + b ≤ 2 * q + 1) := by show _ ∧ _; omega
        clear hq0
        by_cases hqm : q < m
        · -- [[three
          have hqm' : (q : Int) < (m : Int) := by omega
          obtain ⟨s0, hs0⟩ : ∃ s0 : Nat, (q : Int) + (m : Int) - (b : Int) = (s0 : Int) := ⟨q + m - b, by have := HQ.out; omega⟩
          have HS0 : Hid (a ≤ s0 ∧ s0 ≤ q ∧ s0 + b = q + m) := by have := HQ.out; show _ ∧ _ ∧ _; omega
          have IH2 : Hid (∀ wr, Below w.heap.size w wr → Calls Yba.prog 16 #[.slice (some ⟨g, 0, none⟩) n cap, .int .i64 q, .int .i64 m, .int .i64 b, .func (.func 9) #[] #[]] wr fun e w' => e = .returned (.tuple #[]) ∧ Below wr.heap.size wr w') :=
            fun wr hb => IH.out q m b (by have := HQ.out; omega) hqm hmb hbn wr (HS.out.below hb)
          clear IH
          have HAA : Hid (a < m ∧ m < b ∧ b ≤ n) := ⟨ham, hmb, hbn⟩
          have hmb' : (m : Int) < (b : Int) := by omega
          have haq : (a : Int) < (q : Int) := by have := HQ.out; omega
          have he : (q : Int) + (m : Int) - (q : Int) = (m : Int) := by omega
          go_enter Yba.func16, Yba.ntmps16
          go_upto_block 8 with fail
          go_wp2_with fail
          go_loopg [20, 21, 23] (q - s0) (fun k x y _ wr => ∃ s : Nat, s0 ≤ s ∧ s ≤ q ∧ k = q - s ∧ x = .int .i64 s ∧ y = .int .i64 q ∧ Hid (Below w.heap.size w wr))
          case atStart => exact ⟨s0, Nat.le_refl _, HS0.out.2.1, rfl, rfl, rfl, Below.refl _ _⟩
          case round =>
            obtain ⟨s, hj1, hj2, rfl, rfl, rfl, HB⟩ := hrel
            by_cases hlt : s < q
            · have hlt' : (s : Int) < (q : Int) := by omega
              obtain ⟨c, hc⟩ : ∃ c : Nat, c = (s + q) / 2 := ⟨_, rfl⟩
              have hcI : ((s : Int) + (q : Int)) / 2 = (c : Int) := by omega
              have c1 : s ≤ c := by omega
              have c2 : c < q := by omega
              clear hc
              obtain ⟨t, htI⟩ : ∃ t : Nat, (q : Int) + (m : Int) - 1 - (c : Int) = (t : Int) := ⟨q + m - 1 - c, by omega⟩
              have htn : t < n := by have := HS0.out; omega
              obtain ⟨A1, A2, LD1, LD2, C1, FE, X1, X2⟩ := cmp_facts (cap := cap) HS.out HB.out (x := t) (y := c) htn (by omega)
              go_upto_region 35 with fail
              refine wp_region_quiet_below (by kernel_rfl) (by kernel_rfl) ?_
              repeat (first
                | (go_big_quiet_want; refine quiet_load 48 (.tmp 163) (by rfl) (.pointer (some ⟨g, t * 3, none⟩)) (.agg A1) (by rfl) LD1 ?_; go_big_quiet_on; go_frame)
                | (go_big_quiet_want; refine quiet_load 48 (.tmp 167) (by rfl) (.pointer (some ⟨g, c * 3, none⟩)) (.agg A2) (by rfl) LD2 ?_; go_big_quiet_on; go_frame)
                | go_big_quiet_step (with_reducible exact C1 _ _))
              refine wpQuiet_nil ?_
              rintro _ ⟨⟨dq, oq⟩, rfl⟩
              have HB2 := FE dq oq
              clear C1 LD1 LD2 FE X1 X2
              go_wp2_with fail
              go_roundg (q - (c + 1))
              case measure => omega
              case rel => exact ⟨c + 1, by omega, by omega, rfl, by go_num, rfl, HB2⟩
            · have hsq : s = q := by omega
              subst hsq
              have hlt' : ¬ (s : Int) < (s : Int) := by omega
              have IC := IH2.out wr HB.out
              go_wp2_with (go_at_call 16; refine IC.mono ?_; rintro e w2 ⟨rfl, hb2⟩; (replace HB : Hid _ := below_more HB.out (Nat.le_refl _) hb2); clear IC hb2)
              exact bodyPost_end (v := .tuple #[]) (by simp [results, Yba.results16, go_sem]) rfl ⟨rfl, HB.out⟩
        · -- [[four
          have hqm' : ¬ (q : Int) < (m : Int) := by omega
          have he : (q : Int) + (m : Int) - (m : Int) = (q : Int) := by omega
          have haq : (a : Int) < (m : Int) := by omega
          have HQB : Hid (q < b ∧ q + m < a + b + 1) := by have := HQ.out; show _ ∧ _; omega
          have IH2 : Hid (m < q → ∀ wr, Below w.heap.size w wr → Calls Yba.prog 16 #[.slice (some ⟨g, 0, none⟩) n cap, .int .i64 a, .int .i64 m, .int .i64 q, .func (.func 9) #[] #[]] wr fun e w' => e = .returned (.tuple #[]) ∧ Below wr.heap.size wr w') :=
            fun hmq wr hb => IH.out a m q (by have := HQB.out; omega) ham hmq (by have := HQB.out; omega) wr (HS.out.below hb)
          clear IH
          go_enter Yba.func16, Yba.ntmps16
          go_upto_block 8 with fail
          go_wp2_with fail
          go_loopg [20, 21, 23] (m - a) (fun k x y _ wr => ∃ s : Nat, a ≤ s ∧ s ≤ m ∧ k = m - s ∧ x = .int .i64 s ∧ y = .int .i64 m ∧ Hid (Below w.heap.size w wr))
          case atStart => exact ⟨a, Nat.le_refl _, by omega, rfl, rfl, rfl, Below.refl _ _⟩
          case round =>
            obtain ⟨s, hj1, hj2, rfl, rfl, rfl, HB⟩ := hrel
            by_cases hlt : s < m
            · have hlt' : (s : Int) < (m : Int) := by omega
              obtain ⟨c, hc⟩ : ∃ c : Nat, c = (s + m) / 2 := ⟨_, rfl⟩
              have hcI : ((s : Int) + (m : Int)) / 2 = (c : Int) := by omega
              have c1 : s ≤ c := by omega
              have c2 : c < m := by omega
              clear hc
              obtain ⟨t, htI⟩ : ∃ t : Nat, (q : Int) + (m : Int) - 1 - (c : Int) = (t : Int) := ⟨q + m - 1 - c, by omega⟩
              have htn : t < n := by have := HQB.out; omega
              obtain ⟨A1, A2, LD1, LD2, C1, FE, X1, X2⟩ := cmp_facts (cap := cap) HS.out HB.out (x := t) (y := c) htn (by omega)
              go_upto_region 35 with fail
              refine wp_region_quiet_below (by kernel_rfl) (by kernel_rfl) ?_
              repeat (first
                | (go_big_quiet_want; refine quiet_load 48 (.tmp 163) (by rfl) (.pointer (some ⟨g, t * 3, none⟩)) (.agg A1) (by rfl) LD1 ?_; go_big_quiet_on; go_frame)
                | (go_big_quiet_want; refine quiet_load 48 (.tmp 167) (by rfl) (.pointer (some ⟨g, c * 3, none⟩)) (.agg A2) (by rfl) LD2 ?_; go_big_quiet_on; go_frame)
                | go_big_quiet_step (with_reducible exact C1 _ _))
              refine wpQuiet_nil ?_
              rintro _ ⟨⟨dq, oq⟩, rfl⟩
              have HB2 := FE dq oq
              clear C1 LD1 LD2 FE X1 X2
              go_wp2_with fail
              go_roundg (m - (c + 1))
              case measure => omega
              case rel => exact ⟨c + 1, by omega, by omega, rfl, by go_num, rfl, HB2⟩
            · have hsm : s = m := by omega
              subst hsm
              have hlt' : ¬ (s : Int) < (s : Int) := by omega
              by_cases hmq : s < q
              · have hmq' : (s : Int) < (q : Int) := by omega
                have IC := IH2.out hmq wr HB.out
                go_wp2_with (go_at_call 16; refine IC.mono ?_; rintro e w2 ⟨rfl, hb2⟩; (replace HB : Hid _ := below_more HB.out (Nat.le_refl _) hb2); clear IC hb2)
                exact bodyPost_end (v := .tuple #[]) (by simp [results, Yba.results16, go_sem]) rfl ⟨rfl, HB.out⟩
              · have hmq' : ¬ (s : Int) < (q : Int) := by omega
                go_wp2_with fail
                exact bodyPost_end (v := .tuple #[]) (by simp [results, Yba.results16, go_sem]) rfl ⟨rfl, HB.out⟩
end Go.Proofs.Ybulkdwxq

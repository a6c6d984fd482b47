import Derived.Test.YbulkdwxcRows
import Derived.Test.YbulkdwxcBits
import Derived.WalkKit
import Derived.WalkSpells
import Derived.WalkLawsBesides
import Derived.BigQuiet
import Derived.Deep.RegionWith
namespace Go.Proofs.Ybulkdwxc
open Go.RowKit

set_option maxHeartbeats 400000 in
theorem nsec_any (p : Nat) (ns : Int) (h0 : 0 ≤ ns) (h1 : ns < 1000000000) (w : World) (c0 : w.cell? ⟨p, 0, none⟩ = some (.int .u64 ns)) :
    Calls Yba.prog 19 #[.pointer (some ⟨p, 0, none⟩)] w fun e w' => e = .returned (.int .i32 ns) ∧ w' = w := by
  have b1 := and_low ns h0 (by omega)
  go_enter Yba.func19, Yba.ntmps19
  go_wp2
  go_ret
  exact ⟨rfl, rfl⟩

set_option maxHeartbeats 400000 in
theorem sec_any (p : Nat) (ns s : Int) (h0 : 0 ≤ ns) (h1 : ns < 1000000000) (w : World) (c0 : w.cell? ⟨p, 0, none⟩ = some (.int .u64 ns)) (c1 : w.cell? ⟨p, 1, none⟩ = some (.int .i64 s)) :
    Calls Yba.prog 18 #[.pointer (some ⟨p, 0, none⟩)] w fun e w' => e = .returned (.int .i64 s) ∧ w' = w := by
  have b1 := and_top ns h0 (by omega)
  go_enter Yba.func18, Yba.ntmps18
  go_wp2
  go_ret
  exact ⟨rfl, rfl⟩

set_option maxHeartbeats 400000 in
theorem addSec_any (ns s d : Int) (h0 : 0 ≤ ns) (h1 : ns < 1000000000) (hs : -4000000000000000000 ≤ s ∧ s ≤ 4000000000000000000) (hd : -4000000000000000000 ≤ d ∧ d ≤ 4000000000000000000) (w1 : World) (c2 : Value) (Z : Obj) (p : Nat) (hp : w1.heap.size = p) :
    Calls Yba.prog 20 #[.pointer (some ⟨p, 0, none⟩), .int .i64 d] ((w1.alloc (.cells #[.int .u64 ns, .int .i64 s, c2] 29)).alloc Z) fun e w' => e = .returned (.tuple #[]) ∧ w' = ((w1.alloc (.cells #[.int .u64 ns, .int .i64 (s + d), c2] 29)).alloc Z) := by
  subst hp
  have b1 := and_top ns h0 (by omega)
  by_cases hd0 : 0 < d
  · have e1 : s < s + d := by omega
    go_enter Yba.func20, Yba.ntmps20
    go_wp2
    go_end0
    exact ⟨rfl, rfl⟩
  · have e1 : ¬ s < s + d := by omega
    have e2 : decide (s < s + d) = false := by simpa using e1
    have e3 : decide (0 < d) = false := by simpa using hd0
    go_enter Yba.func20, Yba.ntmps20
    go_wp2
    go_end0
    exact ⟨rfl, rfl⟩
/-- A time.Time without a monotonic reading. -/
def tm (ns s : Int) : Value := .agg #[.int .u64 ns, .int .i64 s, .pointer none]

set_option maxRecDepth 100000 in
set_option maxHeartbeats 400000 in
theorem add_any (ns s d : Int) (h0 : 0 ≤ ns) (h1 : ns < 1000000000) (hs : -1000000000000000000 ≤ s ∧ s ≤ 1000000000000000000) (hd : -9223372036854775808 ≤ d ∧ d ≤ 9223372036854775807) (w : World) :
    Calls Yba.prog 10 #[.agg #[.int .u64 ns, .int .i64 s, .pointer none], .int .i64 d] w fun e w' => e = .returned (.agg #[.int .u64 ((ns + d) % 1000000000), .int .i64 (s + (ns + d) / 1000000000), .pointer none]) ∧ Below w.heap.size w w' := by
  obtain ⟨q, hq⟩ : ∃ q, d.tdiv 1000000000 = q := ⟨_, rfl⟩
  obtain ⟨r, hr⟩ : ∃ r, d.tmod 1000000000 = r := ⟨_, rfl⟩
  obtain ⟨e1, e2, e3, e4, e5⟩ := cut_down d q r hq hr
  have hq1 : -9223372037 ≤ q := by omega
  have hq2 : q ≤ 9223372037 := by omega
  have HD : Hid (d = q * 1000000000 + r) := e1
  clear e1
  by_cases g1 : 1000000000 ≤ ns + r
  · have a1 : Hid ((ns + d) % 1000000000 = ns + r - 1000000000) := by have := HD.out; show _ = _; omega
    have a2 : Hid ((ns + d) / 1000000000 = q + 1) := by have := HD.out; show _ = _; omega
    have b1 := not_low ns h0 (by omega)
    have b2 := or_none (ns + r - 1000000000) (by omega) (by omega)
    have b3 := and_top (ns + r - 1000000000) (by omega) (by omega)
    go_enter Yba.func10, Yba.ntmps10
    go_wp2_with fail
    refine (nsec_any _ ns h0 h1 _ ?_).mono ?_
    · go_simp
    rintro e w1 ⟨rfl, rfl⟩
    go_wp2_with fail
    refine (addSec_any (ns + r - 1000000000) s (q + 1) (by omega) (by omega) (by omega) (by omega) w _ _ _ rfl).mono ?_
    rintro e w1 ⟨rfl, rfl⟩
    go_wp2_with fail
    exact bodyPost_ret (v := .agg #[.int .u64 (ns + r - 1000000000), .int .i64 (s + (q + 1)), .pointer none]) (by simp [results, Yba.results10, go_sem]) rfl ⟨by rw [a1.out, a2.out], ((Below.refl _ _).alloc (Nat.le_refl _) _).alloc (by simp) _⟩
  · by_cases g2 : ns + r < 0
    · have a1 : Hid ((ns + d) % 1000000000 = ns + r + 1000000000) := by have := HD.out; show _ = _; omega
      have a2 : Hid ((ns + d) / 1000000000 = q - 1) := by have := HD.out; show _ = _; omega
      have b1 := not_low ns h0 (by omega)
      have b2 := or_none (ns + r + 1000000000) (by omega) (by omega)
      have b3 := and_top (ns + r + 1000000000) (by omega) (by omega)
      go_enter Yba.func10, Yba.ntmps10
      go_wp2_with fail
      refine (nsec_any _ ns h0 h1 _ ?_).mono ?_
      · go_simp
      rintro e w1 ⟨rfl, rfl⟩
      go_wp2_with fail
      refine (addSec_any (ns + r + 1000000000) s (q - 1) (by omega) (by omega) (by omega) (by omega) w _ _ _ rfl).mono ?_
      rintro e w1 ⟨rfl, rfl⟩
      go_wp2_with fail
      exact bodyPost_ret (v := .agg #[.int .u64 (ns + r + 1000000000), .int .i64 (s + (q - 1)), .pointer none]) (by simp [results, Yba.results10, go_sem]) rfl ⟨by rw [a1.out, a2.out], ((Below.refl _ _).alloc (Nat.le_refl _) _).alloc (by simp) _⟩
    · have a1 : Hid ((ns + d) % 1000000000 = ns + r) := by have := HD.out; show _ = _; omega
      have a2 : Hid ((ns + d) / 1000000000 = q) := by have := HD.out; show _ = _; omega
      have b1 := not_low ns h0 (by omega)
      have b2 := or_none (ns + r) (by omega) (by omega)
      have b3 := and_top (ns + r) (by omega) (by omega)
      go_enter Yba.func10, Yba.ntmps10
      go_wp2_with fail
      refine (nsec_any _ ns h0 h1 _ ?_).mono ?_
      · go_simp
      rintro e w1 ⟨rfl, rfl⟩
      go_wp2_with fail
      refine (addSec_any (ns + r) s (q) (by omega) (by omega) (by omega) (by omega) w _ _ _ rfl).mono ?_
      rintro e w1 ⟨rfl, rfl⟩
      go_wp2_with fail
      exact bodyPost_ret (v := .agg #[.int .u64 (ns + r), .int .i64 (s + (q)), .pointer none]) (by simp [results, Yba.results10, go_sem]) rfl ⟨by rw [a1.out, a2.out], ((Below.refl _ _).alloc (Nat.le_refl _) _).alloc (by simp) _⟩

end Go.Proofs.Ybulkdwxc

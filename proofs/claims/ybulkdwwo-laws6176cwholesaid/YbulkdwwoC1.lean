import Derived.Test.YbulkdwwoRows
import Derived.WalkKit
import Derived.WalkSpells
import Derived.WalkLawsBesides
import Derived.BigQuiet
import Derived.Deep.RegionWith
import Derived.Deep.RegionHeld3
import Derived.Deep.DeepCutAuto
namespace Go.Proofs.Ybulkdwwo
open Go.RowKit

/-- What 'bounded' answers. -/
def bd (n b : Int) : Int := if 0 < b ∧ b < n then b else n
/-- max(1000000, n), min(a, b). -/
def mx (n : Int) : Int := if 1000000 < n then n else 1000000
def mn (a b : Int) : Int := if b < a then b else a

set_option maxHeartbeats 400000 in
theorem bounded_any (n b : Int) (w : World) :
    Calls Yba.prog 12 #[.int .i64 n, .int .i64 b] w fun e w' => e = .returned (.int .i64 (bd n b)) ∧ w' = w := by
  by_cases h1 : 0 < b
  · by_cases h2 : b < n
    · go_enter Yba.func12, Yba.ntmps12
      go_wp2
      go_ret
      exact ⟨by unfold bd; rw [if_pos ⟨h1, h2⟩]; rfl, rfl⟩
    · go_enter Yba.func12, Yba.ntmps12
      go_wp2
      go_ret
      exact ⟨by unfold bd; rw [if_neg (by omega)]; rfl, rfl⟩
  · have hd : decide (0 < b) = false := by simpa using h1
    go_enter Yba.func12, Yba.ntmps12
    go_wp2
    go_ret
    exact ⟨by unfold bd; rw [if_neg (by omega)]; rfl, rfl⟩

set_option maxHeartbeats 400000 in
theorem limit_any (n : Int) (w1 : World) (c0 c1 c2 c3 c4 : Value) (A : Nat) (hA : w1.heap.size = A) :
    Calls Yba.prog 10 #[.pointer (some ⟨A, 0, none⟩), .int .i64 n] (w1.alloc (.cells #[c0, c1, c2, c3, c4] 39)) fun e w' => e = .returned (.tuple #[]) ∧ w' = w1.alloc (.cells #[.int .i64 (mx n), .int .i64 n, c2, c3, c4] 39) := by
  subst hA
  by_cases h : 1000000 < n
  · go_enter Yba.func10, Yba.ntmps10
    go_wp2
    go_end0
    exact ⟨rfl, by unfold mx; rw [if_pos h]⟩
  · go_enter Yba.func10, Yba.ntmps10
    go_wp2
    go_end0
    exact ⟨rfl, by unfold mx; rw [if_neg (by omega)]⟩

theorem limit_drew (n : Int) (w1 : World) (c0 c1 c2 c3 c4 : Value) (A : Nat) (hA : w1.heap.size = A) :
    Calls Yba.prog 10 #[.pointer (some ⟨A, 0, none⟩), .int .i64 n] (w1.alloc (.cells #[c0, c1, c2, c3, c4] 39)).drew fun e w' => e = .returned (.tuple #[]) ∧ w' = (w1.alloc (.cells #[.int .i64 (mx n), .int .i64 n, c2, c3, c4] 39)).drew :=
  limit_any n w1.drew c0 c1 c2 c3 c4 A hA

theorem wrapEq (x : Int) : IntKind.i64.wrap x = wrap64 x := by rw [IntKind.wrap_i64, wrap64]

set_option maxRecDepth 100000 in
set_option maxHeartbeats 400000 in
theorem within_any (b m e i : Int) (nw : Bool) (bb be by_ : Int) (w : World) :
    Calls Yba.prog 11 #[.agg #[.int .i64 b, .int .i64 m, .int .i64 e, .int .i64 i, .bool nw], .agg #[.int .i64 bb, .int .i64 be, .int .i64 by_]] w fun e' w' =>
      e' = .returned (.agg #[.int .i64 (bd b bb), .int .i64 (bd m by_), .int .i64 e, .int .i64 i, .bool nw]) ∧ Below w.heap.size w w' := by
  go_enter Yba.func11, Yba.ntmps11
  go_wp2_with (go_at_call 12; refine (bounded_any _ _ _).mono ?_; rintro e' w' ⟨rfl, rfl⟩)
  exact bodyPost_ret (v := .agg #[.int .i64 (bd b bb), .int .i64 (bd m by_), .int .i64 e, .int .i64 i, .bool nw]) (by simp [results, Yba.results11, go_sem]) rfl ⟨rfl, (((Below.refl _ _).alloc (Nat.le_refl _) _).alloc (by simp) _).alloc (by simp; omega) _⟩

/-- The batch and the bytes that nextPull asks for, ahead of StopAfter's bound. -/
def nb (mb bufB mm aw buf : Int) : Int := if mb = 0 then wrap64 (wrap64 (mm - aw) - buf) else mx (wrap64 (mb - bufB))
def nm (mb bufB m : Int) : Int := if mb = 0 then m else wrap64 (mb - bufB)
/-- .. and behind it. -/
def ns (B st ho hm aw : Int) : Int := if 0 < st then mn B (wrap64 (wrap64 (wrap64 (st - ho) - hm) - aw)) else B

/-- Behind a callee that makes memory alone: five cells of an old block, and that they may be written. -/
theorem five {W w' : World} (hb : Below W.heap.size W w') {A : Nat} (hA : A < W.heap.size) {c0 c1 c2 c3 c4 : Value} {t : TypeId} (h : W.heap[A]? = some (.cells #[c0, c1, c2, c3, c4] t (0, 0))) :
    w'.cell? ⟨A, 0, none⟩ = some c0 ∧ w'.cell? ⟨A, 1, none⟩ = some c1 ∧ w'.cell? ⟨A, 2, none⟩ = some c2 ∧ w'.cell? ⟨A, 3, none⟩ = some c3 ∧ w'.cell? ⟨A, 4, none⟩ = some c4 ∧ (∀ j, w'.frozen? ⟨A, j, none⟩ = false) := by
  have hc := fun j => (hb.cell (p := ⟨A, j, none⟩) hA).trans (cell_of_row W A j _ t (0, 0) h)
  refine ⟨hc 0, hc 1, hc 2, hc 3, hc 4, fun j => ?_⟩
  rw [hb.frozen (p := ⟨A, j, none⟩) hA]
  simp [World.frozen?, h]

/-- The three variables of nextPull. -/
def Np (w : World) (ho hm buf bufB : Int) (idle : Bool) (B M e i : Int) (nw : Bool) : World :=
  ((w.alloc (.cells #[.int .i64 ho, .int .i64 hm, .int .i64 buf, .int .i64 bufB, .bool idle] 93)).alloc (.cells #[.int .i64 0, .int .i64 0, .int .i64 0, .int .i64 0, .bool false] 39)).alloc (.cells #[.int .i64 B, .int .i64 M, .int .i64 e, .int .i64 i, .bool nw] 39)

theorem Np_size (w : World) (ho hm buf bufB : Int) (idle : Bool) (B M e i : Int) (nw : Bool) : (Np w ho hm buf bufB idle B M e i nw).heap.size = w.heap.size + 3 := by simp [Np]
theorem Np_res (w : World) (ho hm buf bufB : Int) (idle : Bool) (B M e i : Int) (nw : Bool) : (Np w ho hm buf bufB idle B M e i nw).heap[w.heap.size + 1]? = some (.cells #[.int .i64 0, .int .i64 0, .int .i64 0, .int .i64 0, .bool false] 39 (0, 0)) := by
  have h1 := heap_alloc_new (w.alloc (.cells #[.int .i64 ho, .int .i64 hm, .int .i64 buf, .int .i64 bufB, .bool idle] 93)) (.cells #[.int .i64 0, .int .i64 0, .int .i64 0, .int .i64 0, .bool false] 39)
  rw [show (w.alloc (.cells #[.int .i64 ho, .int .i64 hm, .int .i64 buf, .int .i64 bufB, .bool idle] 93)).heap.size = w.heap.size + 1 by simp] at h1
  unfold Np
  rw [Below.heap_alloc _ _ _ (by simp), h1]
theorem Np_below (w : World) (ho hm buf bufB : Int) (idle : Bool) (B M e i : Int) (nw : Bool) : Below w.heap.size w (Np w ho hm buf bufB idle B M e i nw) :=
  (((Below.refl _ _).alloc (Nat.le_refl _) _).alloc (by simp) _).alloc (by simp; omega) _

set_option maxRecDepth 100000 in
set_option maxHeartbeats 800000 in
theorem next_any (s : Nat) (b m e i : Int) (nw : Bool) (mm mb st bb be by_ aw ho hm buf bufB : Int) (idle : Bool) (w : World)
    (k0 : w.cell? ⟨s, 0, none⟩ = some (.int .i64 b)) (k1 : w.cell? ⟨s, 1, none⟩ = some (.int .i64 m)) (k2 : w.cell? ⟨s, 2, none⟩ = some (.int .i64 e)) (k3 : w.cell? ⟨s, 3, none⟩ = some (.int .i64 i)) (k4 : w.cell? ⟨s, 4, none⟩ = some (.bool nw))
    (k5 : w.cell? ⟨s, 5, none⟩ = some (.int .i64 mm)) (k6 : w.cell? ⟨s, 6, none⟩ = some (.int .i64 mb)) (k9 : w.cell? ⟨s, 9, none⟩ = some (.int .i64 st))
    (k22 : w.cell? ⟨s, 22, none⟩ = some (.int .i64 bb)) (k23 : w.cell? ⟨s, 23, none⟩ = some (.int .i64 be)) (k24 : w.cell? ⟨s, 24, none⟩ = some (.int .i64 by_)) (k27 : w.cell? ⟨s, 27, none⟩ = some (.int .i64 aw)) :
    Calls Yba.prog 6 #[.pointer (some ⟨s, 0, none⟩), .agg #[.int .i64 ho, .int .i64 hm, .int .i64 buf, .int .i64 bufB, .bool idle]] w fun e' w' =>
      e' = .returned (.agg #[.int .i64 (bd (ns (nb mb bufB mm aw buf) st ho hm aw) bb), .int .i64 (bd (nm mb bufB m) by_), .int .i64 e, .int .i64 i, .bool nw]) ∧ Below w.heap.size w w' := by
  have hs : s < w.heap.size := World.block_lt_of_cell? w _ k0
  have hs1 : s < w.heap.size + 1 := by omega
  have hs2 : s < w.heap.size + 1 + 1 := by omega
  go_enter Yba.func6, Yba.ntmps6
  go_upto_if 17 with fail
  go_cut [] (fun wx => wx = (Np w ho hm buf bufB idle (nb mb bufB mm aw buf) (nm mb bufB m) e i nw).drew)
  case first =>
    by_cases h0 : mb = 0
    · have hmb : (mb != 0) = false := by simp [h0]
      have E1 : Hid (nb mb bufB mm aw buf = wrap64 (wrap64 (mm - aw) - buf)) := by unfold nb; rw [if_pos h0]; rfl
      have E2 : Hid (nm mb bufB m = m) := by unfold nm; rw [if_pos h0]; rfl
      clear h0
      go_wp2
      go_region
      all_goals go_wp2_with fail
      all_goals go_meet
      all_goals (rw [E1.out, E2.out]; rfl)
    · have hmb : (mb != 0) = true := by simp [h0]
      have E1 : Hid (nb mb bufB mm aw buf = mx (wrap64 (mb - bufB))) := by unfold nb; rw [if_neg h0]; rfl
      have E2 : Hid (nm mb bufB m = wrap64 (mb - bufB)) := by unfold nm; rw [if_neg h0]; rfl
      have f6 : (((w.alloc (.cells #[.int .i64 ho, .int .i64 hm, .int .i64 buf, .int .i64 bufB, .bool idle] 93)).alloc (.cells #[.int .i64 0, .int .i64 0, .int .i64 0, .int .i64 0, .bool false] 39)).alloc (.cells #[.int .i64 b, .int .i64 m, .int .i64 e, .int .i64 i, .bool nw] 39)).cell? ⟨s, 6, none⟩ = some (.int .i64 mb) := by go_simp
      have f3 : (((w.alloc (.cells #[.int .i64 ho, .int .i64 hm, .int .i64 buf, .int .i64 bufB, .bool idle] 93)).alloc (.cells #[.int .i64 0, .int .i64 0, .int .i64 0, .int .i64 0, .bool false] 39)).alloc (.cells #[.int .i64 b, .int .i64 m, .int .i64 e, .int .i64 i, .bool nw] 39)).cell? ⟨w.heap.size, 3, none⟩ = some (.int .i64 bufB) := by go_simp
      clear h0
      go_wp2
      go_region_held3 (fun w' => w'.cell? ⟨s, 6, none⟩ = some (.int .i64 mb) ∧ w'.cell? ⟨w.heap.size, 3, none⟩ = some (.int .i64 bufB)) ((first | exact ⟨f6, f3⟩ | (refine ⟨?_, ?_⟩ <;> (go_simp; done)))) ((go_at_call 10; refine (limit_drew _ _ _ _ _ _ _ (w.heap.size + 1 + 1) (by simp)).mono ?_; rintro e' w' ⟨rfl, rfl⟩))
      all_goals go_wp2_with fail
      all_goals go_meet
      all_goals (rw [E1.out, E2.out, wrapEq]; rfl)
  case rest =>
    unfold Np at hcut
    subst hcut
    generalize hB : nb mb bufB mm aw buf = B
    generalize hM : nm mb bufB m = M
    have HB : Hid (nb mb bufB mm aw buf = B) := hB
    have HM : Hid (nm mb bufB m = M) := hM
    clear hB hM
    go_upto_if 50 with fail
    go_cut [] (fun wx => ∃ n, wx = (Np w ho hm buf bufB idle (ns B st ho hm aw) M e i nw).drewN n)
    case first =>
      by_cases h0 : 0 < st
      · have E1 : Hid (ns B st ho hm aw = mn B (wrap64 (wrap64 (wrap64 (st - ho) - hm) - aw))) := by unfold ns; rw [if_pos h0]; rfl
        go_wp2
        go_region
        all_goals go_wp2_with fail
        all_goals go_meet
        all_goals rw [E1.out]
        all_goals unfold Np mn
        all_goals first | exact ⟨2, by rw [if_pos (by omega)]; rfl⟩ | exact ⟨2, by rw [if_neg (by omega)]; rfl⟩
      · have hd : decide (0 < st) = false := by simpa using h0
        have E1 : Hid (ns B st ho hm aw = B) := by unfold ns; rw [if_neg h0]; rfl
        go_wp2_with fail
        go_meet
        rw [E1.out]
        exact ⟨1, rfl⟩
    case rest =>
      obtain ⟨n1, hcut⟩ := hcut
      unfold Np at hcut
      subst hcut
      generalize hB2 : ns B st ho hm aw = B2
      have HB2 : Hid (ns B st ho hm aw = B2) := hB2
      clear hB2
      go_wp2_with fail
      have NS := Np_size w ho hm buf bufB idle B2 M e i nw
      have NR := Np_res w ho hm buf bufB idle B2 M e i nw
      have NB := Np_below w ho hm buf bufB idle B2 M e i nw
      go_region_with (go_at_call 11; refine (within_any _ _ _ _ _ _ _ _ _).mono ?_; rintro e' w' ⟨rfl, hb⟩; have hz := hb.size; obtain ⟨z0, z1, z2, z3, z4, zf⟩ := five (W := (Np w ho hm buf bufB idle B2 M e i nw).drewN (n1 + 1)) (A := w.heap.size + 1) hb (by show _ < (Np w ho hm buf bufB idle B2 M e i nw).heap.size; omega) NR; have hbb := (below_drewN NB (n1 + 1)).trans (Below.mono (B' := w.heap.size) hb (by show _ ≤ (Np w ho hm buf bufB idle B2 M e i nw).heap.size; omega)))
      all_goals go_wp2
      all_goals exact bodyPost_ret (v := .agg #[.int .i64 (bd B2 bb), .int .i64 (bd M by_), .int .i64 e, .int .i64 i, .bool nw]) (by simp [results, Yba.results6, go_sem, z0, z1, z2, z3, z4]) rfl ⟨by rw [HB.out, HM.out, HB2.out], ((((hbb.setCell (p := ⟨w.heap.size + 1, 0, none⟩) (by simp) _).setCell (p := ⟨w.heap.size + 1, 1, none⟩) (by simp) _).setCell (p := ⟨w.heap.size + 1, 2, none⟩) (by simp) _).setCell (p := ⟨w.heap.size + 1, 3, none⟩) (by simp) _).setCell (p := ⟨w.heap.size + 1, 4, none⟩) (by simp) _⟩
end Go.Proofs.Ybulkdwwo

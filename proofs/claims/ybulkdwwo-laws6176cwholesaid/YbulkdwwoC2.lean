import Derived.Test.YbulkdwwoC1
namespace Go.Proofs.Ybulkdwwo
open Go.RowKit

theorem wrap_two (a b c : Int) : wrap64 (wrap64 (a - b) - c) = wrap64 (wrap64 (a - c) - b) := by unfold wrap64; omega
theorem wrap_three (a b c d : Int) : wrap64 (wrap64 (wrap64 (a - b) - c) - d) = wrap64 (wrap64 (wrap64 (a - d) - c) - b) := by unfold wrap64; omega

set_option maxRecDepth 100000 in
set_option maxHeartbeats 800000 in
theorem model_any (b m e i : Int) (nw : Bool) (mm mb st aw bb be by_ ho hm buf bufB : Int) (idle : Bool) (w : World) :
    Calls Yba.prog 7 #[.agg #[.int .i64 b, .int .i64 m, .int .i64 e, .int .i64 i, .bool nw, .int .i64 mm, .int .i64 mb, .int .i64 st, .int .i64 aw, .int .i64 bb, .int .i64 be, .int .i64 by_, .int .i64 ho, .int .i64 hm, .int .i64 buf, .int .i64 bufB, .bool idle]] w fun e' w' =>
      e' = .returned (.agg #[.int .i64 (bd (ns (nb mb bufB mm aw buf) st ho hm aw) bb), .int .i64 (bd (nm mb bufB m) by_), .int .i64 e, .int .i64 i, .bool nw]) ∧ Below w.heap.size w w' := by
  go_enter Yba.func7, Yba.ntmps7
  go_upto_if 12 with fail
  go_cut [3, 4] (fun s3 s4 wx => s3 = .int .i64 (nb mb bufB mm aw buf) ∧ s4 = .int .i64 (nm mb bufB m) ∧ wx = ((w.alloc (.cells #[.int .i64 b, .int .i64 m, .int .i64 e, .int .i64 i, .bool nw, .int .i64 mm, .int .i64 mb, .int .i64 st, .int .i64 aw, .int .i64 bb, .int .i64 be, .int .i64 by_, .int .i64 ho, .int .i64 hm, .int .i64 buf, .int .i64 bufB, .bool idle] 37)).alloc (.cells #[.int .i64 0, .int .i64 0, .int .i64 0, .int .i64 0, .bool false] 39)))
  case first =>
    by_cases h0 : mb = 0
    · have hmb : (mb == 0) = true := by simp [h0]
      have E1 : Hid (nb mb bufB mm aw buf = wrap64 (wrap64 (mm - buf) - aw)) := by unfold nb; rw [if_pos h0, wrap_two]; rfl
      have E2 : Hid (nm mb bufB m = m) := by unfold nm; rw [if_pos h0]; rfl
      clear h0
      go_wp2_with fail
      go_meet
      exact ⟨by rw [E1.out], by rw [E2.out], rfl⟩
    · have hmb : (mb == 0) = false := by simp [h0]
      have E2 : Hid (nm mb bufB m = wrap64 (mb - bufB)) := by unfold nm; rw [if_neg h0]; rfl
      by_cases h1 : 1000000 < wrap64 (mb - bufB)
      · have E1 : Hid (nb mb bufB mm aw buf = wrap64 (mb - bufB)) := by unfold nb mx; rw [if_neg h0, if_pos h1]; rfl
        clear h0
        go_wp2_with fail
        go_meet
        exact ⟨by rw [E1.out], by rw [E2.out], rfl⟩
      · have E1 : Hid (nb mb bufB mm aw buf = 1000000) := by unfold nb mx; rw [if_neg h0, if_neg h1]; rfl
        clear h0
        go_wp2_with fail
        go_meet
        exact ⟨by rw [E1.out], by rw [E2.out], rfl⟩
  case rest =>
    obtain ⟨rfl, rfl, rfl⟩ := hcut
    generalize hB : nb mb bufB mm aw buf = B
    generalize hM : nm mb bufB m = M
    have HB : Hid (nb mb bufB mm aw buf = B) := hB
    have HM : Hid (nm mb bufB m = M) := hM
    clear hB hM
    go_upto_if 32 with fail
    go_cut [3] (fun s3 wx => s3 = .int .i64 (ns B st ho hm aw) ∧ wx = ((w.alloc (.cells #[.int .i64 b, .int .i64 m, .int .i64 e, .int .i64 i, .bool nw, .int .i64 mm, .int .i64 mb, .int .i64 st, .int .i64 aw, .int .i64 bb, .int .i64 be, .int .i64 by_, .int .i64 ho, .int .i64 hm, .int .i64 buf, .int .i64 bufB, .bool idle] 37)).alloc (.cells #[.int .i64 0, .int .i64 0, .int .i64 0, .int .i64 0, .bool false] 39)))
    case first =>
      by_cases h0 : 0 < st
      · have E1 : Hid (ns B st ho hm aw = mn B (wrap64 (wrap64 (wrap64 (st - aw) - hm) - ho))) := by unfold ns; rw [if_pos h0, wrap_three]; rfl
        by_cases h1 : wrap64 (wrap64 (wrap64 (st - aw) - hm) - ho) < B
        · have E2 : Hid (mn B (wrap64 (wrap64 (wrap64 (st - aw) - hm) - ho)) = wrap64 (wrap64 (wrap64 (st - aw) - hm) - ho)) := by unfold mn; rw [if_pos h1]; rfl
          go_wp2_with fail
          go_meet
          exact ⟨by rw [E1.out, E2.out], rfl⟩
        · have E2 : Hid (mn B (wrap64 (wrap64 (wrap64 (st - aw) - hm) - ho)) = B) := by unfold mn; rw [if_neg h1]; rfl
          go_wp2_with fail
          go_meet
          exact ⟨by rw [E1.out, E2.out], rfl⟩
      · have E1 : Hid (ns B st ho hm aw = B) := by unfold ns; rw [if_neg h0]; rfl
        go_wp2_with fail
        go_meet
        exact ⟨by rw [E1.out], rfl⟩
    case rest =>
      obtain ⟨rfl, rfl⟩ := hcut
      generalize hB2 : ns B st ho hm aw = B2
      have HB2 : Hid (ns B st ho hm aw = B2) := hB2
      clear hB2
      have D1 : (0 < bb ∧ bb < B2 ∧ Hid (bd B2 bb = bb)) ∨ (0 < bb ∧ B2 ≤ bb ∧ Hid (bd B2 bb = B2)) ∨ (decide (0 < bb) = false ∧ bb ≤ 0 ∧ Hid (bd B2 bb = B2)) := by
        by_cases h1 : 0 < bb
        · by_cases h2 : bb < B2
          · exact .inl ⟨h1, h2, by unfold bd; rw [if_pos ⟨h1, h2⟩]; rfl⟩
          · exact .inr (.inl ⟨h1, by omega, by unfold bd; rw [if_neg (by omega)]; rfl⟩)
        · exact .inr (.inr ⟨by simpa using h1, by omega, by unfold bd; rw [if_neg (by omega)]; rfl⟩)
      have D2 : (0 < by_ ∧ by_ < M ∧ Hid (bd M by_ = by_)) ∨ (0 < by_ ∧ M ≤ by_ ∧ Hid (bd M by_ = M)) ∨ (decide (0 < by_) = false ∧ by_ ≤ 0 ∧ Hid (bd M by_ = M)) := by
        by_cases h1 : 0 < by_
        · by_cases h2 : by_ < M
          · exact .inl ⟨h1, h2, by unfold bd; rw [if_pos ⟨h1, h2⟩]; rfl⟩
          · exact .inr (.inl ⟨h1, by omega, by unfold bd; rw [if_neg (by omega)]; rfl⟩)
        · exact .inr (.inr ⟨by simpa using h1, by omega, by unfold bd; rw [if_neg (by omega)]; rfl⟩)
      rcases D1 with ⟨d1, d2, d3⟩ | ⟨d1, d2, d3⟩ | ⟨d1, d2, d3⟩ <;> rcases D2 with ⟨d4, d5, d6⟩ | ⟨d4, d5, d6⟩ | ⟨d4, d5, d6⟩
      all_goals go_wp2
      all_goals exact bodyPost_ret (v := .agg #[.int .i64 _, .int .i64 _, .int .i64 e, .int .i64 i, .bool nw]) (by simp [results, Yba.results7, go_sem]; exact ⟨rfl, rfl⟩) rfl ⟨by rw [HB.out, HM.out, HB2.out, d3.out, d6.out], ((Below.refl _ _).alloc (Nat.le_refl _) _).alloc (by simp) _⟩
end Go.Proofs.Ybulkdwwo

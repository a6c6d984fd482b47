import Derived.Test.YbulkdwxcIds
import Derived.Deep.DeepCutAuto
namespace Go.Proofs.Ybulkdwxc
open Go.RowKit Go.Maps

theorem info68 : (Yba.prog.info? 68).map (·.size) = some 59 := by kernel_rfl
theorem info46' (X : Array Value) (h : X.size = 20) : (Yba.prog.info? 46).map (·.size) = some X.size := by rw [h]; exact info46
theorem info46l (X : Array Value) (h : X.size = 20) : (Yba.prog.info? 46).map (·.size) = some X.toList.length := by rw [Array.length_toList, h]; exact info46

theorem rangeAt_below {B : Nat} {w w' : World} {b o : Nat} {cs : List Value} (h : w.rangeAt b o cs) (k : Below B w w') (hb : b < B) : w'.rangeAt b o cs :=
  fun j v hv => (k.cell (p := ⟨b, o + j, none⟩) hb).trans (h j v hv)

set_option maxRecDepth 100000 in
set_option maxHeartbeats 400000 in
/-- 'member': the link's own Peer. -/
theorem member_any (gl : Nat) (X : Array Value) (hX : X.size = 20) (h1 : X.all (·.oneCell') = true) (w : World) (hr : w.rangeAt gl 0 X.toList) (hgl : gl < w.heap.size) :
    Calls Yba.prog 26 #[.pointer (some ⟨gl, 0, none⟩)] w fun e w' => e = .returned (.agg X) ∧ Below w.heap.size w w' := by
  go_enter Yba.func26, Yba.ntmps26
  go_upto_region 1 with fail
  generalize hZ : (#[Value.int IntKind.u8 0, _, _, _, _, _, _, _, _, _, _, _, _, _, _, _, _, _, _, _] : Array Value) = Z
  have hZs : Z.size = X.size := by rw [← hZ, hX]; rfl
  have hr1 : (w.alloc (.cells Z 46)).rangeAt gl 0 X.toList := rangeAt_below hr ((Below.refl _ _).alloc (Nat.le_refl _) _) hgl
  clear hZ
  go_wp2_with (first
    | (refine wpList_load_mid (by rfl) 46 (.tmp 6) (by rfl) gl 0 (by rfl) X.toList _ hr1 Yba.underlying46 (by rfl) (info46l X hX) ?_)
    | (refine wpList_store_new (by rfl) 46 (.tmp 2) (.tmp 7) (by rfl) w Z X 46 w.heap.size rfl (by rfl) (by rfl) (by rfl) hZs (info46' X hX) h1 ?_))
  exact bodyPost_ret (v := .agg X) (results_cell_row Yba.results26 _ _ w.heap.size 46 X (0, 0) _ (by rfl) (al_new _ _ _ rfl) Yba.underlying46 (by rfl) (info46' X hX)) rfl ⟨rfl, (Below.refl _ _).alloc (Nat.le_refl _) _⟩

theorem field46 (X : Array Value) (w : World) : (Instr.field 46 (.agg X) 0).run Yba.prog w = .ok (.agg (X.extract 0 16)) w := by
  simp [Instr.field, part, go_sem, asAgg]

set_option maxRecDepth 100000 in
set_option maxHeartbeats 400000 in
/-- 'dead': is the link's identifier among the dead? -/
theorem dead_any (gt gl : Nat) (X : Array Value) (I : List Int) (r : Option Nat) (Ks : List (List Int)) (n : Nat) (hX : X.size = 20) (h1 : X.all (·.oneCell') = true) (hI : Id16 I) (hXI : X.extract 0 16 = idv I) (hn : n ≤ 65536)
    (w : World) (hr : w.rangeAt gl 0 X.toList) (hgl : gl < w.heap.size) (hgt : w.cell? ⟨gt, 21, none⟩ = some (.map r)) (hd : DeadIs w r Ks n) :
    Calls Yba.prog 16 #[.pointer (some ⟨gt, 0, none⟩), .pointer (some ⟨gl, 0, none⟩)] w fun e w' => e = .returned (.bool (decide (I ∈ Ks))) ∧ Below w.heap.size w w' := by
  have hlen := hd.len 3
  have hzero := hd.zero
  by_cases h0 : n = 0
  · have hK : decide (I ∈ Ks) = false := by simp [hzero.1 h0]
    subst h0
    rw [hK]
    clear hd hzero
    go_enter Yba.func16, Yba.ntmps16
    go_wp2_with fail
    go_ret
    exact ⟨rfl, Below.refl _ _⟩
  · have h0' : (n : Int) ≠ 0 := by omega
    clear hzero
    have hgt' := World.block_lt_of_cell? w _ hgt
    go_enter Yba.func16, Yba.ntmps16
    go_upto_region 3 with fail
    go_cut [6] (fun b wx => b = .bool (decide (I ∈ Ks)) ∧ Below w.heap.size w wx)
    case first =>
      clear hlen
      have hf := field46 X
      rw [hXI] at hf
      have LK : ∀ w1, Below w.heap.size w w1 → (Instr.lookup 25 (.map r) (.agg (idv I)) true).run Yba.prog w1 = .ok (.tuple #[.agg #[.int .u64 0, .int .i64 0, .pointer none], .bool (decide (I ∈ Ks))]) w1 := fun w1 hb => (hd.below hb).look h0 hI
      have RA : ∀ w1, Below w.heap.size w w1 → w1.rangeAt gl 0 X.toList := fun w1 hb => rangeAt_below hr hb hgl
      have bd : Below w.heap.size w w.drew := ⟨rfl, rfl, rfl, Nat.le_refl _, fun _ _ => rfl⟩
      have bd2 : Below w.heap.size w (w.alloc (.cells #[.int .u64 0, .int .i64 0, .pointer none] 29)).drew := ⟨rfl, rfl, rfl, ((Below.refl w.heap.size w).alloc (Nat.le_refl _) _).size, ((Below.refl w.heap.size w).alloc (Nat.le_refl _) _).block⟩
      have MA : ∀ w1, Below (w.heap.size + 1) (w.alloc (.cells #[.int .u64 0, .int .i64 0, .pointer none] 29)).drew w1 → Below w.heap.size w w1 ∧ (w1.cell? ⟨w.heap.size, 0, none⟩ = some (.int .u64 0) ∧ w1.cell? ⟨w.heap.size, 1, none⟩ = some (.int .i64 0) ∧ w1.cell? ⟨w.heap.size, 2, none⟩ = some (.pointer none)) ∧ ∀ j, w1.frozen? ⟨w.heap.size, j, none⟩ = false := by
        intro w1 hb
        refine ⟨bd2.trans (hb.mono (by omega)), ⟨?_, ?_, ?_⟩, fun j => ?_⟩
        · exact (hb.cell (p := ⟨w.heap.size, 0, none⟩) (by simp)).trans (by go_simp)
        · exact (hb.cell (p := ⟨w.heap.size, 1, none⟩) (by simp)).trans (by go_simp)
        · exact (hb.cell (p := ⟨w.heap.size, 2, none⟩) (by simp)).trans (by go_simp)
        · exact (hb.frozen (p := ⟨w.heap.size, j, none⟩) (by simp)).trans (by go_simp)
      clear hd hr h0
      have hcA : (w.alloc (.cells #[.int .u64 0, .int .i64 0, .pointer none] 29)).cell? ⟨gt, 21, none⟩ = some (.map r) := (bd2.cell (p := ⟨gt, 21, none⟩) hgt').trans hgt
      go_region_with (first
        | (go_at_call 26; refine (member_any gl X hX h1 _ (RA _ bd2) (by simp; omega)).mono ?_; rintro e w1 ⟨rfl, hb⟩; have hb := MA w1 (by simpa using hb); (obtain ⟨hb, ⟨c0, c1, c2⟩, f0⟩ := hb); have hl := LK w1 hb; have hc := (hb.cell (p := ⟨gt, 21, none⟩) hgt').trans hgt; have hc2 := ((hb.alloc hb.size (.cells #[.int .u64 0, .int .i64 0, .pointer none] 29)).cell (p := ⟨gt, 21, none⟩) hgt').trans hgt; clear LK RA bd bd2 MA)
        | (go_at_call 26; refine (member_any gl X hX h1 _ (RA _ bd) hgl).mono ?_; rintro e w1 ⟨rfl, hb⟩; have hb : Below w.heap.size w w1 := (bd.trans hb); have hl := LK w1 hb; have hl2 := LK (w1.alloc (.cells #[.int .u64 0, .int .i64 0, .pointer none] 29)) (hb.alloc hb.size _); have hc := (hb.cell (p := ⟨gt, 21, none⟩) hgt').trans hgt; have hc2 := ((hb.alloc hb.size (.cells #[.int .u64 0, .int .i64 0, .pointer none] 29)).cell (p := ⟨gt, 21, none⟩) hgt').trans hgt; clear LK RA bd bd2 MA))
      all_goals go_wp2_with fail
      all_goals go_meet
      all_goals first
        | exact ⟨rfl, hb.alloc hb.size _⟩
        | exact ⟨rfl, ((hb.setCell (p := ⟨w.heap.size, 0, none⟩) (Nat.le_refl _) _).setCell (p := ⟨w.heap.size, 1, none⟩) (Nat.le_refl _) _).setCell (p := ⟨w.heap.size, 2, none⟩) (Nat.le_refl _) _⟩
    case rest =>
      obtain ⟨rfl, hb⟩ := hcut
      go_wp2_with fail
      go_ret
      exact ⟨rfl, hb⟩

end Go.Proofs.Ybulkdwxc

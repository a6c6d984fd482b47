import Derived.Test.YbulkdwxcA4
import Derived.LaidEqlPtr
namespace Go.Proofs.Ybulkdwxc
open Go.RowKit Go.Maps Go.Sort
set_option maxRecDepth 100000

/-- The Peer of an identifier, at a port. -/
def peerP (I : List Int) (port : Int) : Array Value := (I.map (Value.int .u8) ++ ([.int .u64 0, .int .u64 0, .pointer none, .int .u16 port] : List Value)).toArray
/-- The last cells of a link. -/
def tailL : List Value := [.bool false, .int .u64 0, .int .u64 0, .int .i64 0, .pointer none, .int .u64 0, .int .i64 0, .pointer none, .int .i64 0, .map none, .int .u64 0, .int .i64 0, .pointer none, .slice none 0 0, .int .u64 0, .int .u64 0, .int .u64 0, .slice none 0 0]
/-- The link that the law makes: heard, confirmed. -/
def lnkA (I : List Int) (hn hs cn cs : Int) : Array Value := ((peerP I 0).toList ++ (([.slice none 0 0, .int .u64 hn, .int .i64 hs, .pointer none, .int .u64 cn, .int .i64 cs, .pointer none, .int .u64 0, .int .i64 0, .pointer none,
  .int .u64 0, .int .u64 0, .int .i64 0, .pointer none, .slice none 0 0, .int .u64 0, .int .u64 0, .int .i64 0, .pointer none, .slice none 0 0, .int .u64 0] : List Value) ++ tailL)).toArray
/-- The timings: the period alone. -/
def tim (per : Int) : Array Value := #[.int .i64 per, .int .i64 0, .int .i64 0, .int .i64 0, .int .i64 0, .int .i64 0, .int .i64 0, .int .i64 0, .int .i64 0, .int .i64 0, .int .i64 0, .int .i64 0, .int .i64 0]

theorem len16 (I : List Int) (h : I.length = 16) : ∃ a0 a1 a2 a3 a4 a5 a6 a7 a8 a9 a10 a11 a12 a13 a14 a15, I = [a0, a1, a2, a3, a4, a5, a6, a7, a8, a9, a10, a11, a12, a13, a14, a15] := by
  match I, h with
  | [a0, a1, a2, a3, a4, a5, a6, a7, a8, a9, a10, a11, a12, a13, a14, a15], _ => exact ⟨a0, a1, a2, a3, a4, a5, a6, a7, a8, a9, a10, a11, a12, a13, a14, a15, rfl⟩

theorem build34 (per : Int) (w : World) : (Instr.build 34 #[(0, .int .i64 per)]).run Yba.prog w = .ok (.agg (tim per)) w := by kernel_rfl
theorem build46I (I : List Int) (h : I.length = 16) (w : World) : (Instr.build 46 #[(0, .agg (idv I))]).run Yba.prog w = .ok (.agg (peerP I 0)) w := by
  obtain ⟨a0, a1, a2, a3, a4, a5, a6, a7, a8, a9, a10, a11, a12, a13, a14, a15, rfl⟩ := len16 I h
  kernel_rfl
theorem build57I (I : List Int) (h : I.length = 16) (w : World) : (Instr.build 57 #[(0, .agg (peerP I 0))]).run Yba.prog w = .ok (.agg (peerP I 0)) w := by
  obtain ⟨a0, a1, a2, a3, a4, a5, a6, a7, a8, a9, a10, a11, a12, a13, a14, a15, rfl⟩ := len16 I h
  kernel_rfl
theorem build68I (I : List Int) (h : I.length = 16) (hn hs cn cs : Int) (w : World) :
    (Instr.build 68 #[(0, .agg (peerP I 0)), (2, .agg #[.int .u64 hn, .int .i64 hs, .pointer none]), (3, .agg #[.int .u64 cn, .int .i64 cs, .pointer none])]).run Yba.prog w = .ok (.agg (lnkA I hn hs cn cs)) w := by
  obtain ⟨a0, a1, a2, a3, a4, a5, a6, a7, a8, a9, a10, a11, a12, a13, a14, a15, rfl⟩ := len16 I h
  kernel_rfl

theorem peerP_size {I : List Int} (h : I.length = 16) (p : Int) : (peerP I p).size = 20 := by simp [peerP, h]
theorem peerP_one {I : List Int} (h : I.length = 16) (p : Int) : (peerP I p).all (·.oneCell') = true := by
  obtain ⟨a0, a1, a2, a3, a4, a5, a6, a7, a8, a9, a10, a11, a12, a13, a14, a15, rfl⟩ := len16 I h
  kernel_rfl
theorem peerP_id {I : List Int} (h : I.length = 16) (p : Int) : (peerP I p).extract 0 16 = idv I := by
  match I, h with
  | [a0, a1, a2, a3, a4, a5, a6, a7, a8, a9, a10, a11, a12, a13, a14, a15], _ => rfl
theorem idv_one (I : List Int) : (idv I).all (·.oneCell') = true := by
  simp [idv, Value.oneCell']
theorem lnkA_size {I : List Int} (h : I.length = 16) (hn hs cn cs : Int) : (lnkA I hn hs cn cs).size = 59 := by simp [lnkA, peerP, tailL, h]
theorem lnkA_get {I : List Int} (h : I.length = 16) (hn hs cn cs : Int) : (lnkA I hn hs cn cs)[21]? = some (.int .u64 hn) ∧ (lnkA I hn hs cn cs)[22]? = some (.int .i64 hs) ∧ (lnkA I hn hs cn cs)[23]? = some (.pointer none) ∧
    (lnkA I hn hs cn cs)[24]? = some (.int .u64 cn) ∧ (lnkA I hn hs cn cs)[25]? = some (.int .i64 cs) ∧ (lnkA I hn hs cn cs)[26]? = some (.pointer none) := by
  match I, h with
  | [a0, a1, a2, a3, a4, a5, a6, a7, a8, a9, a10, a11, a12, a13, a14, a15], _ => exact ⟨rfl, rfl, rfl, rfl, rfl, rfl⟩

theorem info23 {I : List Int} (h : I.length = 16) : (Yba.prog.info? 23).map (·.size) = some (idv I).size := by
  rw [show (idv I).size = 16 by simp [idv, h]]; kernel_rfl
theorem info23l {I : List Int} (h : I.length = 16) : (Yba.prog.info? 23).map (·.size) = some (idv I).toList.length := by
  rw [show (idv I).toList.length = 16 by simp [idv, h]]; kernel_rfl
theorem info30l {I : List Int} (h : I.length = 16) : (Yba.prog.info? 30).map (·.size) = some (idv I).toList.length := by
  rw [show (idv I).toList.length = 16 by simp [idv, h]]; kernel_rfl

/-- What is read from a block at an offset. -/
theorem range_of_block {w : World} {g : Nat} {C : Array Value} {t : TypeId} {fr : Nat × Nat} (h : w.heap[g]? = some (.cells C t fr)) (o : Nat) (cs : List Value) (hc : ∀ j v, cs[j]? = some v → C[o + j]? = some v) : w.rangeAt g o cs :=
  fun j v hv => by rw [cell_of_row _ _ _ _ _ _ h]; exact hc j v hv

theorem lnkA_range {w : World} {g : Nat} {I : List Int} {hn hs cn cs : Int} {t : TypeId} {fr : Nat × Nat} (hb : w.heap[g]? = some (.cells (lnkA I hn hs cn cs) t fr)) : w.rangeAt g 0 (peerP I 0).toList :=
  range_of_block hb 0 _ fun j v hv => by
    have hj := (List.getElem?_eq_some_iff.1 hv).1
    simp only [lnkA, Nat.zero_add, List.getElem?_toArray]
    rw [List.getElem?_append_left hj]
    exact hv
theorem lnkA_idrange {w : World} {g : Nat} {I : List Int} {hn hs cn cs : Int} {t : TypeId} {fr : Nat × Nat} (hb : w.heap[g]? = some (.cells (lnkA I hn hs cn cs) t fr)) : w.rangeAt g 0 (idv I).toList :=
  range_of_block hb 0 _ fun j v hv => by
    have hj := (List.getElem?_eq_some_iff.1 hv).1
    simp only [lnkA, peerP, Nat.zero_add, List.getElem?_toArray, List.append_assoc]
    rw [List.getElem?_append_left (by simpa [idv] using hj)]
    simpa [idv] using hv

/-- A SLICE OF IDENTIFIERS THAT CAME IN. -/
def IsIds (w : World) (a : Option Addr) (len : Nat) (ids : List (List Int)) : Prop :=
  ids.length = len ∧ (∀ I ∈ ids, Id16 I) ∧ (len = 0 ∨ ∃ b o, a = some ⟨b, o, none⟩ ∧ b < w.heap.size ∧ ∀ i, i < len → w.rangeAt b (o + i * 16) (idv (ids.getD i [])).toList)

theorem size23 (w : World) : (sizeOf 23).run Yba.prog w = .ok 16 w := by kernel_rfl
theorem IsIds.at {w : World} {a : Option Addr} {len cap : Nat} {ids : List (List Int)} (h : IsIds w a len ids) {k : Nat} (hk : k < len) :
    ∃ b o, (∀ wx, (Instr.indexAt 22 (.slice a len cap) (.int .i64 (k : Int))).run Yba.prog wx = .ok (.pointer (some ⟨b, o + k * 16, none⟩)) wx) ∧ b < w.heap.size ∧ w.rangeAt b (o + k * 16) (idv (ids.getD k [])).toList ∧ Id16 (ids.getD k []) := by
  obtain ⟨hl, hid, h0 | ⟨b, o, rfl, hb, hr⟩⟩ := h
  · omega
  · refine ⟨b, o, ?_, hb, hr k hk, ?_⟩
    · intro wx
      have he : Yba.prog.elem 22 = 23 := by kernel_rfl
      rw [run_indexAt_slice wx 22 _ _ _ _ _ (by rw [he]; exact Yba.underlying22), he, if_pos ⟨by omega, by omega⟩, size23]
      simp [Result.andThen, WideShapes.add_plain]
    · simp [List.getElem?_eq_getElem (show k < ids.length by omega)]
      exact hid _ (List.getElem_mem (by omega))

end Go.Proofs.Ybulkdwxc

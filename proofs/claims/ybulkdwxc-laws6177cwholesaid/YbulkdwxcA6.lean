import Derived.Test.YbulkdwxcA5
import Derived.Deep.CutBlock
namespace Go.Proofs.Ybulkdwxc
open Go.RowKit Go.Maps Go.Sort

theorem sub_ms (a b : Int) (ha : -2147483648 ≤ a ∧ a ≤ 2147483647) (hb : -2147483648 ≤ b ∧ b ≤ 2147483647) :
    subT (a * 1000000 % 1000000000) (a * 1000000 / 1000000000) (b * 1000000 % 1000000000) (b * 1000000 / 1000000000) = (a - b) * 1000000 := by
  have h1 := Int.emod_add_mul_ediv (a * 1000000) 1000000000
  have h2 := Int.emod_add_mul_ediv (b * 1000000) 1000000000
  have hf : far (a * 1000000 % 1000000000) (a * 1000000 / 1000000000) (b * 1000000 % 1000000000) (b * 1000000 / 1000000000) = (a - b) * 1000000 := by unfold far; omega
  unfold subT
  rw [hf, if_pos (by omega)]

theorem below_grown {B : Nat} {w0 w w' : World} {b : Nat} (h : Below B w0 w) (hB : B ≤ w0.heap.size) (hg : w.grownBy w' (some b)) (hb : B ≤ b) : Below B w0 w' :=
  h.trans ⟨hg.os, hg.tape, hg.output, hg.size, fun k hk => hg.block k (by have := h.size; omega) (by intro e; cases e; omega)⟩

theorem kept {w w' : World} {k : Nat} {o : Obj} (hb : Below w.heap.size w w') (h : w.heap[k]? = some o) : w'.heap[k]? = some o := by
  rw [hb.block k (Array.getElem?_eq_some_iff.1 h).1, h]
theorem below_more {B : Nat} {w w' w'' : World} (h : Below B w w') (hB : B ≤ w.heap.size) (k : Below w'.heap.size w' w'') : Below B w w'' := h.trans (k.mono (by have := h.size; omega))

/-- A time of milliseconds, its two numbers as letters. -/
theorem aat_letters (ms : Int) (h : -2147483648 ≤ ms ∧ ms ≤ 2147483647) : ∃ n s : Int, (∀ w, Calls Yba.prog 6 #[.int .i32 ms] w fun e w' => e = .returned (.agg #[.int .u64 n, .int .i64 s, .pointer none]) ∧ Below w.heap.size w w') ∧
    0 ≤ n ∧ n < 1000000000 ∧ (-100000000000 ≤ s ∧ s ≤ 100000000000) ∧ Hid (n = ms * 1000000 % 1000000000 ∧ s = ms * 1000000 / 1000000000) :=
  ⟨_, _, aat_any ms h, by omega, by omega, by omega, ⟨rfl, rfl⟩⟩

theorem info34 : (Yba.prog.info? 34).map (·.size) = some 13 := by kernel_rfl
theorem ptr31_same (a : Addr) (w : World) : (binOp .eql 31 (.pointer (some a)) (.pointer (some a))).run Yba.prog w = .ok (.bool true) w := by
  cases hj : Yba.prog.info? 34 with
  | none => have := info34; rw [hj] at this; cases this
  | some j => exact run_eql_ptr_same w a Yba.underlying31 hj
theorem eql23 {I J : List Int} (h : Id16 I) (g : Id16 J) (w : World) : (binOp .eql 23 (.agg (idv I)) (.agg (idv J))).run Yba.prog w = .ok (.bool (decide (I = J))) w := by
  simp only [binOp]
  simp [equal23 w h g]
theorem neq30 {I : List Int} (h : Id16 I) (w : World) : (binOp .neq 30 (.agg (idv I)) (.agg (idv I))).run Yba.prog w = .ok (.bool false) w := by
  simp only [binOp]
  simp [equal30 w h h]

/-- What the law wants. -/
theorem state_ms {h c nw per hn hs cn cs nn ns : Int} (hh : -2147483648 ≤ h ∧ h ≤ 2147483647) (hc : -2147483648 ≤ c ∧ c ≤ 2147483647) (hnw : -2147483648 ≤ nw ∧ nw ≤ 2147483647) 
    (HH : hn = h * 1000000 % 1000000000 ∧ hs = h * 1000000 / 1000000000) (HC : cn = c * 1000000 % 1000000000 ∧ cs = c * 1000000 / 1000000000) (HN : nn = nw * 1000000 % 1000000000 ∧ ns = nw * 1000000 / 1000000000) (dead : Bool) :
    stateT dead (subT nn ns hn hs) (subT nn ns cn cs) (per * 1000000) = if dead = true then 2 else if nw - h < per ∧ nw - c < per then 0 else 1 := by
  rw [HH.1, HH.2, HC.1, HC.2, HN.1, HN.2, sub_ms nw h hnw hh, sub_ms nw c hnw hc]
  unfold stateT
  by_cases hd : dead = true
  · simp [hd]
  · rw [if_neg hd, if_neg hd]
    by_cases h1 : nw - h < per ∧ nw - c < per
    · rw [if_pos h1, if_pos ⟨by omega, by omega⟩]
    · rw [if_neg h1, if_neg (by omega)]

/-- A load of many cells in a region that draws its order. -/
theorem quiet_load {P : Program} {C : World → Prop} {K : Act → Prop} {o : Oper} {a : Act} (ty : TypeId) (x : Operand) (hop : o.op = .load ty x) (p v : Value) (hx : a.eval x = p) (hrun : ∀ w, C w → (Instr.loadAt ty p).run P w = .ok v w) (hk : K (a.put o.dst v)) : o.quiet P a C K :=
  ⟨v, fun w hw => by unfold Oper.quietAt; simp only [execOp, hop, hx, hrun w hw, Sem.run_bind, Result.andThen_ok, Sem.run_pure]; exact ⟨rfl, rfl⟩, hk⟩

theorem load_many {B : Nat} {w wx : World} {b o : Nat} {ty : TypeId} {cs : Array Value} {d : TypeDesc} (hc : w.rangeAt b o cs.toList) (hk : Below B w wx) (hb : b < B) (hu : Yba.prog.underlying ty = some d) (hd : d.isRow = true) (hi : (Yba.prog.info? ty).map (·.size) = some cs.toList.length) :
    (Instr.loadAt ty (.pointer (some ⟨b, o, none⟩))).run Yba.prog wx = .ok (.agg cs) wx :=
  run_loadAt_mid wx b o ty cs.toList d (rangeAt_below hc hk hb) hu hd hi

theorem mem_new {L M : List (List Int)} {I J : List Int} (h : M = L ++ [I]) (e : I = J) : true = decide (J ∈ M) := by
  subst h; subst e; simp
theorem mem_old {L M : List (List Int)} {I J : List Int} {d : Bool} (h : M = L ++ [I]) (hd : d = decide (J ∈ L)) (e : ¬ I = J) : d = decide (J ∈ M) := by
  subst h; subst hd
  rw [decide_eq_decide, List.mem_append, List.mem_singleton]
  exact ⟨.inl, fun h => h.elim id (fun h => absurd h.symm e)⟩
theorem take_next {ids : List (List Int)} {k : Nat} (h : k < ids.length) : ids.take (k + 1) = ids.take k ++ [ids.getD k []] := by
  rw [List.take_add_one, List.getElem?_eq_getElem h]; simp [List.getElem?_eq_getElem h]

end Go.Proofs.Ybulkdwxc

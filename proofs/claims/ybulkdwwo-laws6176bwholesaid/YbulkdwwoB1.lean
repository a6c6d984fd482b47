import Derived.Test.YbulkdwwoRows
import Derived.WalkKit
import Derived.WalkSpells
import Derived.WalkLawsBesides
import Derived.BigQuiet
import Derived.RowKit3
namespace Go.Proofs.Ybulkdwwo
open Go.RowKit

theorem grown_drewN {a w : World} (h : Grown a w) (n : Nat) : Grown a (w.drewN n) := h

theorem func_nil (n : Nat) (w : World) : (binOp .eql 23 (.func (.func 8) #[] #[.pointer (some ⟨n, 0, none⟩)]) .nilFunc).run Yba.prog w = .ok (.bool false) w := by kernel_rfl

set_option maxHeartbeats 400000 in
theorem token_any (s : ByteArray) (w : World) :
    Calls Yba.prog 5 #[.string s] w fun e w' => e = .returned (.func (.func 8) #[] #[.pointer (some ⟨w.heap.size, 0, none⟩)]) ∧ w' = w.alloc (.cells #[.string s] 9) := by
  go_enter Yba.func5, Yba.ntmps5
  go_wp2
  go_ret
  exact ⟨rfl, rfl⟩

set_option maxHeartbeats 400000 in
theorem opt_empty (A : Addr) (b : Nat) (w : World) (hc : w.cell? ⟨b, 0, none⟩ = some (.string ⟨#[]⟩)) :
    Calls Yba.prog 8 #[.pointer (some A), .pointer (some ⟨b, 0, none⟩)] w fun e w' => e = .returned (.iface 100 (.pointer (some ⟨w.heap.size, 0, none⟩))) ∧ ∃ cs, w' = w.alloc (.cells cs 102) := by
  go_enter Yba.func8, Yba.ntmps8
  go_wp2
  go_ret
  exact ⟨rfl, _, rfl⟩

set_option maxHeartbeats 400000 in
theorem opt_some (s : ByteArray) (hs : s.toList.isEmpty = false) (w1 : World) (c0 c1 c2 c3 c4 c5 c6 c7 c8 c9 c10 c11 : Value) (Z : Obj) (b A : Nat) (hA : w1.heap.size = A) (hb : b < w1.heap.size) (hc : w1.cell? ⟨b, 0, none⟩ = some (.string s)) :
    Calls Yba.prog 8 #[.pointer (some ⟨A, 0, none⟩), .pointer (some ⟨b, 0, none⟩)] ((w1.alloc (.cells #[c0, c1, c2, c3, c4, c5, c6, c7, c8, c9, c10, c11] 32)).alloc Z) fun e w' => e = .returned .nilIface ∧
      w' = ((w1.alloc (.cells #[c0, c1, .string ⟨#[]⟩, .string ⟨#[]⟩, .string s, .pointer none, .string ⟨#[]⟩, .string ⟨#[]⟩, c8, c9, c10, c11] 32)).alloc Z) := by
  subst hA
  go_enter Yba.func8, Yba.ntmps8
  go_wp2
  go_ret
  exact ⟨rfl, rfl⟩

theorem err_some (v : Value) (w : World) : (binOp .neq 34 (.iface 100 v) .nilIface).run Yba.prog w = .ok (.bool true) w := by kernel_rfl
theorem err_none (w : World) : (binOp .eql 34 .nilIface .nilIface).run Yba.prog w = .ok (.bool true) w := by kernel_rfl

set_option maxRecDepth 100000 in
theorem eq32 (b1 : Bool) (s2 s3 s4 s6 s7 : ByteArray) (b8 b9 : Bool) (n10 n11 : Int) (w : World) :
    (binOp .eql 32 (.agg #[.pointer none, .bool b1, .string s2, .string s3, .string s4, .pointer none, .string s6, .string s7, .bool b8, .bool b9, .int .i64 n10, .int .i64 n11])
      (.agg #[.pointer none, .bool b1, .string s2, .string s3, .string s4, .pointer none, .string s6, .string s7, .bool b8, .bool b9, .int .i64 n10, .int .i64 n11])).run Yba.prog w = .ok (.bool true) w := by
  have hp := fun d w => run_equalIn_pointer_nil (P := Yba.prog) w d
  go_simp

set_option maxRecDepth 100000 in
set_option maxHeartbeats 400000 in
theorem b_empty (a1 a2 a3 a4 a5 : ByteArray) (a6 : Bool) (a7 : Bool) (a8 : Bool) (a9 : Int) (a10 : Int) (w : World) :
    Calls Yba.prog 3 #[.string ⟨#[]⟩, .string a1, .string a2, .string a3, .string a4, .string a5, .bool a6, .bool a7, .bool a8, .int .i64 a9, .int .i64 a10] w fun e w' => e = .returned (.bool true) ∧ Grown w w' := by
  have hf := func_nil w.heap.size
  have he := err_some
  have hq := eq32 a6 a1 a2 a3 a4 a5 a7 a8 a9 a10
  go_enter Yba.func3, Yba.ntmps3
  go_wp2_with fail
  refine (token_any _ _).mono ?_
  rintro e w1 ⟨rfl, rfl⟩
  go_wp2_with fail
  refine (opt_empty _ w.heap.size _ ?_).mono ?_
  · go_simp
  rintro e w2 ⟨rfl, cs, rfl⟩
  go_wp2_with fail
  go_quiet (fail)
  go_wp2
  go_ret
  exact ⟨rfl, grown_drewN (((((Grown.refl w).alloc _ _).alloc _ _).alloc _ _).alloc _ _) nq⟩

set_option maxRecDepth 100000 in
set_option maxHeartbeats 400000 in
theorem b_some (a0 : ByteArray) (h0 : a0.toList.isEmpty = false) (a1 a2 a3 a4 a5 : ByteArray) (a6 : Bool) (a7 : Bool) (a8 : Bool) (a9 : Int) (a10 : Int) (w : World) :
    Calls Yba.prog 3 #[.string a0, .string a1, .string a2, .string a3, .string a4, .string a5, .bool a6, .bool a7, .bool a8, .int .i64 a9, .int .i64 a10] w fun e w' => e = .returned (.bool true) ∧ Grown w w' := by
  have hf := func_nil w.heap.size
  have he := err_none
  have hq := eq32 a6 ⟨#[]⟩ ⟨#[]⟩ a0 ⟨#[]⟩ ⟨#[]⟩ a7 a8 a9 a10
  go_enter Yba.func3, Yba.ntmps3
  go_wp2_with fail
  refine (token_any _ _).mono ?_
  rintro e w1 ⟨rfl, rfl⟩
  go_wp2_with fail
  refine (opt_some a0 h0 (w.alloc (.cells #[.string a0] 9)) _ _ _ _ _ _ _ _ _ _ _ _ _ w.heap.size (w.heap.size + 1) (by simp) ?_ ?_).mono ?_
  · simp
  · go_simp
  rintro e w2 ⟨rfl, rfl⟩
  go_wp2_with fail
  go_quiet (fail)
  go_wp2
  go_ret
  exact ⟨rfl, grown_drewN (((((Grown.refl w).alloc _ _).alloc _ _).alloc _ _).alloc _ _) nq⟩

end Go.Proofs.Ybulkdwwo

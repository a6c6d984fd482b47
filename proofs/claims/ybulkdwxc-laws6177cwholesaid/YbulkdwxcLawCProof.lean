/-
  THE ROW 'Rows.LawS6177CWholeSaid': the frame after the guide's shell (proof-skeleton.mjs); the walk: YbulkdwxcCA.lean.
-/
import Derived.Test.YbulkdwxcCA
import Derived.WalkKit
import Derived.ProofKit
import Derived.OpenShut
import Derived.ShutString
import Derived.ChangeOld
import Derived.Below
import Derived.Deep.Slices
namespace Go.Proofs.Ybulkdwxc.lawS6177CWhole
open Go.ChangeShapes Go.WideShapes Go.ChangeAt Go.RowKit

theorem own : ownKnob Yba.prog.godebug = none := by kernel_rfl
theorem laidOut : laidOutB Yba.prog = true := by kernel_rfl
theorem cells76 : Yba.prog.cellsOf 76 = 6 := by kernel_rfl
theorem cells5 : Yba.prog.cellsOf 5 = 1 := by kernel_rfl
theorem cells42 : Yba.prog.cellsOf 42 = 1 := by kernel_rfl
theorem cells26 : Yba.prog.cellsOf 26 = 1 := by kernel_rfl
theorem cells2 : Yba.prog.cellsOf 2 = 1 := by kernel_rfl

set_option maxRecDepth 100000 in
theorem walk_big (a0 : Option Addr) (n cap0 : Nat) (a1 : Option Addr) (n1 cap1 : Nat) (pk fl nowN tick rq dig : Int) (w : World) (hb : 65536 < n ∨ (n ≤ 65536 ∧ 65536 < n1)) :
    Calls Yba.prog 4 #[.slice a0 n cap0, .slice a1 n1 cap1, .int .u8 pk, .int .u16 fl, .int .i64 nowN, .int .i64 tick, .int .u64 rq, .int .u64 dig] w fun e w' => e = .returned (.bool true) ∧ Below w.heap.size w w' := by
  have bw : Below w.heap.size w (w.alloc (.cells #[.int .u64 rq] 26)) := (Below.refl _ _).alloc (Nat.le_refl _) _
  rcases hb with hb | ⟨hb, hb2⟩
  · have hb' : (65536 : Int) < (n : Int) := by omega
    go_enter Yba.func4, Yba.ntmps4
    go_wp2_with fail
    go_ret
    exact ⟨rfl, bw⟩
  · have hb' : ¬ (65536 : Int) < (n : Int) := by omega
    have hb2' : (65536 : Int) < (n1 : Int) := by omega
    go_enter Yba.func4, Yba.ntmps4
    go_wp2_with fail
    go_ret
    exact ⟨rfl, bw⟩

/-- The cells of one member that came in. -/
def memCells (m : Int × Int × Int × Int × Int × Int) : List Value := [.int .u8 m.1, .int .u16 m.2.1, .int .u64 m.2.2.1, .int .u64 m.2.2.2.1, .int .i64 m.2.2.2.2.1, .int .u64 m.2.2.2.2.2]

section
variable {H : Type} {enc : TypeId × Value → H} {W : World} {base : Nat} {sp : Nat → Bool} {held : Bool}
theorem one_cell {cs : List Value} {o : Nat} {v : Value} (h : (cs.drop o).take 1 = [v]) : cs[o]? = some v := by
  have := congrArg (fun l : List Value => l[0]?) h
  simpa [List.getElem?_take, List.getElem?_drop] using this
/-- THE CELLS OF A MEMBER THAT CAME IN. -/
theorem trod_mem {fuel : Nat} {cs : List Value} {x : DataW H × List MemPlace} (h : DataW.trod enc Yba.prog W base sp held fuel 76 cs = some x) : ∃ m : Int × Int × Int × Int × Int × Int, cs = memCells m ∧ (Lit.int .u8 m.1).wf = true ∧ (Lit.int .i64 m.2.2.2.2.1).wf = true := by
  obtain ⟨xs, n, rfl, _, hl, hxl, hel⟩ := DataW.trod_struct Yba.underlying76 h
  rw [cells76] at hl
  have h0 : DataW.trod enc Yba.prog W base sp held n 5 ((cs.drop 0).take (Yba.prog.cellsOf 5)) = xs[0]? := hel 0 _ rfl
  have h1 : DataW.trod enc Yba.prog W base sp held n 42 ((cs.drop 1).take (Yba.prog.cellsOf 42)) = xs[1]? := hel 1 _ rfl
  have h2 : DataW.trod enc Yba.prog W base sp held n 26 ((cs.drop 2).take (Yba.prog.cellsOf 26)) = xs[2]? := hel 2 _ rfl
  have h3 : DataW.trod enc Yba.prog W base sp held n 26 ((cs.drop 3).take (Yba.prog.cellsOf 26)) = xs[3]? := hel 3 _ rfl
  have h4 : DataW.trod enc Yba.prog W base sp held n 2 ((cs.drop 4).take (Yba.prog.cellsOf 2)) = xs[4]? := hel 4 _ rfl
  have h5 : DataW.trod enc Yba.prog W base sp held n 26 ((cs.drop 5).take (Yba.prog.cellsOf 26)) = xs[5]? := hel 5 _ rfl
  simp only [List.size_toArray, List.length_cons, List.length_nil] at hxl
  rw [List.getElem?_eq_getElem (show 0 < xs.length by omega)] at h0
  rw [List.getElem?_eq_getElem (show 1 < xs.length by omega)] at h1
  rw [List.getElem?_eq_getElem (show 2 < xs.length by omega)] at h2
  rw [List.getElem?_eq_getElem (show 3 < xs.length by omega)] at h3
  rw [List.getElem?_eq_getElem (show 4 < xs.length by omega)] at h4
  rw [List.getElem?_eq_getElem (show 5 < xs.length by omega)] at h5
  obtain ⟨k, e0, _, w0⟩ := DataW.trod_int Yba.underlying5 h0
  obtain ⟨p, e1, _, _⟩ := DataW.trod_int Yba.underlying42 h1
  obtain ⟨a, e2, _, _⟩ := DataW.trod_int Yba.underlying26 h2
  obtain ⟨b, e3, _, _⟩ := DataW.trod_int Yba.underlying26 h3
  obtain ⟨c, e4, _, w4⟩ := DataW.trod_int Yba.underlying2 h4
  obtain ⟨l, e5, _, _⟩ := DataW.trod_int Yba.underlying26 h5
  rw [cells5] at e0
  rw [cells42] at e1
  rw [cells26] at e2 e3 e5
  rw [cells2] at e4
  replace e0 := one_cell e0
  replace e1 := one_cell e1
  replace e2 := one_cell e2
  replace e3 := one_cell e3
  replace e4 := one_cell e4
  replace e5 := one_cell e5
  refine ⟨(k, p, a, b, c, l), ?_, w0, w4⟩
  apply List.ext_getElem?
  intro i
  match i with
  | 0 => exact e0
  | 1 => exact e1
  | 2 => exact e2
  | 3 => exact e3
  | 4 => exact e4
  | 5 => exact e5
  | i + 6 => rw [List.getElem?_eq_none (by omega)]; rfl

theorem open73 {a : Option Addr} {len cap : Nat} {d : DataW H} {ps : List MemPlace} (h : DataW.Trod enc Yba.prog W base sp held 73 (.slice a len cap) d ps) :
    ∃ M : Md, IsMem W a len M ∧ (∀ j, j < len → (Lit.int .u8 (M.K j)).wf = true) ∧ ∀ j, j < len → (Lit.int .i64 (M.C j)).wf = true := by
  obtain ⟨fuel, hf⟩ := h
  rcases Deep.open_slice Yba.underlying73 hf with ⟨hcs, _⟩ | ⟨x, l, cp, m, n, D, Pl, hcs, _, hl, hm, hmm, _, hx⟩
  · simp [Value.cells] at hcs
    obtain ⟨rfl, rfl, rfl⟩ := hcs
    exact ⟨⟨fun _ => 0, fun _ => 0, fun _ => 0, fun _ => 0, fun _ => 0, fun _ => 0⟩, .inl rfl, fun j hj => by omega, fun j hj => by omega⟩
  · simp [Value.cells] at hcs
    obtain ⟨rfl, rfl, rfl⟩ := hcs
    have hlm : len ≤ m := by rw [hmm]; split <;> omega
    rw [cells76] at hx
    have key : ∀ i, i < len → ∃ m : Int × Int × Int × Int × Int × Int, (∀ j v, (memCells m)[j]? = some v → W.cell? ((x.add (i * 6)).add j) = some v) ∧ (Lit.int .u8 m.1).wf = true ∧ (Lit.int .i64 m.2.2.2.2.1).wf = true := by
      intro i hi
      obtain ⟨cs', h1, h2⟩ := hx i (by omega)
      obtain ⟨m, rfl, w0, w4⟩ := trod_mem h2
      obtain ⟨_, hlen, hc⟩ := World.cells?_some h1
      refine ⟨m, fun j v hv => ?_, w0, w4⟩
      have hj := (List.getElem?_eq_some_iff.1 hv).1
      rw [hc j (by omega), hv]
    obtain ⟨f, hf'⟩ := Deep.choose_lt key
    refine ⟨⟨fun i => (f i).1, fun i => (f i).2.1, fun i => (f i).2.2.1, fun i => (f i).2.2.2.1, fun i => (f i).2.2.2.2.1, fun i => (f i).2.2.2.2.2⟩, ?_, fun j hj => (hf' j hj).2.1, fun j hj => (hf' j hj).2.2⟩
    by_cases h0 : len = 0
    · exact .inl h0
    · have h00 : W.cell? (x.add 0) = some (.int .u8 (f 0).1) := by
        have := (hf' 0 (by omega)).1 0 _ rfl
        simpa [Addr.add] using this
      obtain ⟨b, off, spot⟩ := x
      have hspot : spot = none := by simpa [Addr.add] using World.cell?_spot h00
      subst hspot
      refine .inr ⟨b, off, rfl, World.block_lt_of_cell? W _ (by simpa [Addr.add] using h00), ?_⟩
      intro i hi j v hv
      have := (hf' i hi).1 j v hv
      rw [WideShapes.add_plain, WideShapes.add_plain] at this
      exact this

theorem open61 {a : Option Addr} {len cap : Nat} {d : DataW H} {ps : List MemPlace} (h : DataW.Trod enc Yba.prog W base sp held 61 (.slice a len cap) d ps) :
    ∃ D : Nat → Int, IsKeys W a len D ∧ ∀ j, j < len → (Lit.int .u8 (D j)).wf = true := by
  obtain ⟨fuel, hf⟩ := h
  rcases Deep.open_slice1 Yba.underlying61 cells5 hf with ⟨hcs, _⟩ | ⟨x, l, cp, m, n, V, D, Pl, hcs, _, hl, hm, hmm, _, hx⟩
  · simp [Value.cells] at hcs
    obtain ⟨rfl, rfl, rfl⟩ := hcs
    exact ⟨fun _ => 0, .inl rfl, fun j hj => by omega⟩
  · simp [Value.cells] at hcs
    obtain ⟨rfl, rfl, rfl⟩ := hcs
    have hlm : len ≤ m := by rw [hmm]; split <;> omega
    have key : ∀ i, i < len → ∃ k : Int, W.cell? (x.add i) = some (.int .u8 k) ∧ (Lit.int .u8 k).wf = true := by
      intro i hi
      obtain ⟨h1, h2⟩ := hx i (by omega)
      obtain ⟨k, e, _, hw⟩ := DataW.trod_int Yba.underlying5 h2
      simp only [List.cons.injEq, and_true] at e
      exact ⟨k, by rw [h1, e], hw⟩
    obtain ⟨f, hf'⟩ := Deep.choose_lt key
    refine ⟨f, ?_, fun j hj => (hf' j hj).2⟩
    by_cases h0 : len = 0
    · exact .inl h0
    · have h00 := (hf' 0 (by omega)).1
      obtain ⟨b, off, spot⟩ := x
      have hspot : spot = none := by simpa [Addr.add] using World.cell?_spot h00
      subst hspot
      refine .inr ⟨b, off, rfl, World.block_lt_of_cell? W _ (by simpa [Addr.add] using h00), ?_⟩
      intro i hi
      have := (hf' i hi).1
      rw [WideShapes.add_plain] at this
      exact this
end

theorem in_u8 {n : Int} (h : (Lit.int .u8 n).wf = true) : 0 ≤ n ∧ n ≤ 255 := by
  simp [Lit.wf, IntKind.min, IntKind.max, IntKind.signed, IntKind.bits] at h
  omega
theorem in_i64 {n : Int} (h : (Lit.int .i64 n).wf = true) : -9223372036854775808 ≤ n ∧ n ≤ 9223372036854775807 := by
  simp [Lit.wf, IntKind.min, IntKind.max, IntKind.signed, IntKind.bits] at h
  omega

theorem walk (a0 : Option Addr) (n cap0 : Nat) (a1 : Option Addr) (n1 cap1 : Nat) (M : Md) (D : Nat → Int) (pk fl nowN tick rq dig : Int) (w : World) (h0 : IsMem w a0 n M) (h1 : IsKeys w a1 n1 D) (hK : ∀ j, j < n → (Lit.int .u8 (M.K j)).wf = true) (hC : ∀ j, j < n → (Lit.int .i64 (M.C j)).wf = true) (hD : ∀ j, j < n1 → (Lit.int .u8 (D j)).wf = true)
    (w2 : (Lit.int .u8 pk).wf = true) (w4 : (Lit.int .i64 nowN).wf = true) :
    Calls Yba.prog 4 #[.slice a0 n cap0, .slice a1 n1 cap1, .int .u8 pk, .int .u16 fl, .int .i64 nowN, .int .i64 tick, .int .u64 rq, .int .u64 dig] w fun e w' => e = .returned (.bool true) ∧ Below w.heap.size w w' := by
  by_cases hn : n ≤ 65536
  · by_cases hn1 : n1 ≤ 65536
    · exact lawC_small a0 n cap0 a1 n1 cap1 M D pk fl nowN tick rq dig w h0 h1 hn hn1 (in_u8 w2) w2 (in_i64 w4) hK (fun j hj => in_i64 (hC j hj)) hD
    · exact walk_big a0 n cap0 a1 n1 cap1 pk fl nowN tick rq dig w (.inr ⟨hn, by omega⟩)
  · exact walk_big a0 n cap0 a1 n1 cap1 pk fl nowN tick rq dig w (.inl (by omega))

set_option maxRecDepth 100000 in
theorem lifted (os : Os) (started : os.Started) (H : Type) (enc : TypeId × Value → H) :
    ReturnsInHanded {} Yba.checked os 4 .any (Rows.lawS6177CWholeSpec.pre6 enc Yba.prog Yba.f4 Rows.lawS6177CWholeRow.domain false) (Rows.lawS6177CWholeSpec.post enc Yba.prog Yba.f4 false true false false) := by
  refine returnsInHanded_of_change (C := Yba.checked) own started (by kernel_rfl) Yba.func4
    (ChangeSpec.witness6 (enc := enc) (C := Yba.checked) false ⟨#[], #[.slice none 0 0, .slice none 0 0, .int .u8 0, .int .u16 0, .int .i64 0, .int .i64 0, .int .u64 0, .int .u64 0], []⟩ 8 (by kernel_rfl) (by kernel_rfl) (by kernel_rfl) (by kernel_rfl)) ?_
  intro W base args ds gs before hval0 hW _ _
  have hval : ∀ (j : Nat) t v, Yba.f4.params[j]? = some t → args[j]? = some v → Value.okWide Yba.prog W .any base t v := hval0
  have hW' := hW
  obtain ⟨p, q, hA0, hV, rfl, _, _⟩ := hW
  have hA : DataW.TrodAll enc Yba.prog W 0 (fun _ => true) true Yba.f4.params.toList args.toList ds p := hA0
  rw [Yba.params4] at hA hval
  obtain ⟨v0, vs0, d0, ds0, p0, q0, hargs, rfl, rfl, h0, r0⟩ := trodAll_cons hA
  obtain ⟨v1, vs1, d1, ds1, p1, q1, rfl, rfl, rfl, h1, r1⟩ := trodAll_cons r0
  obtain ⟨v2, vs2, d2, ds2, p2, q2, rfl, rfl, rfl, h2, r2⟩ := trodAll_cons r1
  obtain ⟨v3, vs3, d3, ds3, p3, q3, rfl, rfl, rfl, h3, r3⟩ := trodAll_cons r2
  obtain ⟨v4, vs4, d4, ds4, p4, q4, rfl, rfl, rfl, h4, r4⟩ := trodAll_cons r3
  obtain ⟨v5, vs5, d5, ds5, p5, q5, rfl, rfl, rfl, h5, r5⟩ := trodAll_cons r4
  obtain ⟨v6, vs6, d6, ds6, p6, q6, rfl, rfl, rfl, h6, r6⟩ := trodAll_cons r5
  obtain ⟨v7, vs7, d7, ds7, p7, q7, rfl, rfl, rfl, h7, r7⟩ := trodAll_cons r6
  obtain ⟨rfl, rfl, rfl⟩ := trodAll_nil r7
  obtain rfl : args = #[v0, v1, v2, v3, v4, v5, v6, v7] := by cases args; simp_all
  obtain ⟨rfl, rfl⟩ := trodVars_none hV
  obtain ⟨a0, len0, cap0, rfl⟩ := okWide_slice Yba.underlying73 (hval 0 73 v0 rfl rfl)
  have k0 := h0
  have lt0 : ∀ x ∈ p0, x.block < W.heap.size := by obtain ⟨m, hm⟩ := k0; exact DataW.trod_lt m _ _ _ hm
  obtain ⟨M, m0, mK, mC⟩ := open73 h0
  obtain ⟨a1, len1, cap1, rfl⟩ := okWide_slice Yba.underlying61 (hval 1 61 v1 rfl rfl)
  have k1 := h1
  have lt1 : ∀ x ∈ p1, x.block < W.heap.size := by obtain ⟨m, hm⟩ := k1; exact DataW.trod_lt m _ _ _ hm
  obtain ⟨D, m1, mD⟩ := open61 h1
  obtain ⟨a2, rfl, rfl, rfl, w2⟩ := open_int Yba.underlying5 (hval 2 5 v2 rfl rfl) h2
  obtain ⟨a3, rfl, rfl, rfl, w3⟩ := open_int Yba.underlying42 (hval 3 42 v3 rfl rfl) h3
  obtain ⟨a4, rfl, rfl, rfl, w4⟩ := open_int Yba.underlying2 (hval 4 2 v4 rfl rfl) h4
  obtain ⟨a5, rfl, rfl, rfl, w5⟩ := open_int Yba.underlying2 (hval 5 2 v5 rfl rfl) h5
  obtain ⟨a6, rfl, rfl, rfl, w6⟩ := open_int Yba.underlying26 (hval 6 26 v6 rfl rfl) h6
  obtain ⟨a7, rfl, rfl, rfl, w7⟩ := open_int Yba.underlying26 (hval 7 26 v7 rfl rfl) h7
  clear hA0 hval0
  refine (walk a0 len0 cap0 a1 len1 cap1 M D a2 a3 a4 a5 a6 a7 W m0 m1 mK mC mD w2 w4).mono fun e' W' ⟨he, bel⟩ => ?_
  subst he
  exact ⟨_, rfl, _, _, _, [], _, [], hW', trodAll_mk1 (shut_bool Yba.underlying4 _), (trodAll_cons_mk (Below.trod laidOut (by kernel_rfl) (of_decide_eq_true (by kernel_rfl)) k0 bel lt0) (trodAll_cons_mk (Below.trod laidOut (by kernel_rfl) (of_decide_eq_true (by kernel_rfl)) k1 bel lt1) (trodAll_cons_mk (shut_int Yba.underlying5 w2) (trodAll_cons_mk (shut_int Yba.underlying42 w3) (trodAll_cons_mk (shut_int Yba.underlying2 w4) (trodAll_cons_mk (shut_int Yba.underlying2 w5) (trodAll_cons_mk (shut_int Yba.underlying26 w6) (trodAll_cons_mk (shut_int Yba.underlying26 w7) trodAll_mk0)))))))), rfl, bel.frame _, fun h => by cases h⟩

theorem over : Rows.lawS6177CWholeRow.holds Yba.pinned (OpenSpec.ofChange Rows.lawS6177CWholeSpec) :=
  OpenClaim.holds_of_wide 4 Yba.f4 rfl rfl rfl rfl rfl rfl rfl ⟨rfl, rfl, rfl, rfl, rfl⟩ rfl rfl rfl rfl rfl (by kernel_rfl) Yba.func4 (by kernel_rfl)
    (of_decide_eq_true (by kernel_rfl)) (by unfold Func.isWrapper; first | (rw [if_pos (by decide +kernel)]; kernel_rfl) | (rw [if_neg (by decide +kernel)]; exact ⟨rfl, rfl⟩))
    (fun os started H enc _ => lifted os started H enc)

/-- THE STATEMENT -/
theorem proved : Rows.LawS6177CWholeSaid := over
end Go.Proofs.Ybulkdwxc.lawS6177CWhole

/-
  THE ROW 'Rows.LawS6177AWholeSaid': the frame after the guide's shell (proof-skeleton.mjs); the walk: YbulkdwxcA7.lean.
-/
import Derived.Test.YbulkdwxcA7
import Derived.WalkKit
import Derived.ProofKit
import Derived.OpenShut
import Derived.ShutString
import Derived.ChangeOld
import Derived.Below
import Derived.Deep.Slices
import Derived.WideKeyArr2
namespace Go.Proofs.Ybulkdwxc.lawS6177AWhole
open Go.ChangeShapes Go.WideShapes Go.ChangeAt Go.RowKit

theorem own : ownKnob Yba.prog.godebug = none := by kernel_rfl
theorem laidOut : laidOutB Yba.prog = true := by kernel_rfl
theorem cells23 : Yba.prog.cellsOf 23 = 16 := by kernel_rfl
theorem cells5 : Yba.prog.cellsOf 5 = 1 := by kernel_rfl

set_option maxRecDepth 100000 in
theorem walk_big (a0 : Option Addr) (len0 cap0 : Nat) (P : List Int) (md h c nw per : Int) (w : World) (hb : 65536 < len0) :
    Calls Yba.prog 3 #[.slice a0 len0 cap0, .agg (idv P), .int .u8 md, .int .i32 h, .int .i32 c, .int .i32 nw, .int .i32 per] w fun e w' => e = .returned (.bool true) ∧ Below w.heap.size w w' := by
  have hb' : (65536 : Int) < (len0 : Int) := by omega
  have bw : Below w.heap.size w (w.alloc (.cells (idv P) 23)) := (Below.refl _ _).alloc (Nat.le_refl _) _
  go_enter Yba.func3, Yba.ntmps3
  go_wp2_with fail
  go_ret
  exact ⟨rfl, bw⟩

section
variable {H : Type} {enc : TypeId × Value → H} {W : World} {base : Nat} {sp : Nat → Bool} {held : Bool}
/-- THE CELLS OF AN IDENTIFIER THAT CAME IN. -/
theorem trod_id {fuel : Nat} {cs : List Value} {x : DataW H × List MemPlace} (h : DataW.trod enc Yba.prog W base sp held fuel 23 cs = some x) : ∃ I, Id16 I ∧ cs = (idv I).toList := by
  obtain ⟨xs, m, rfl, _, hl, hxl, hel⟩ := DataW.trod_array Yba.underlying23 h
  rw [cells23] at hl
  rw [cells5] at hel
  have key : ∀ i, i < 16 → ∃ b, cs[i]? = some (.int .u8 b) ∧ (Lit.int .u8 b).wf = true := by
    intro i hi
    have h1 := hel i hi
    rw [List.getElem?_eq_getElem (show i < xs.length by omega)] at h1
    obtain ⟨b, e, _, hw⟩ := DataW.trod_int Yba.underlying5 h1
    rw [Nat.mul_one] at e
    have e2 := congrArg (fun l : List Value => l[0]?) e
    simp only [List.getElem?_take, List.getElem?_drop, Nat.add_zero] at e2
    exact ⟨b, by simpa using e2, hw⟩
  obtain ⟨f, hf⟩ := Deep.choose_lt key
  refine ⟨(List.range 16).map f, ⟨by simp, ?_⟩, ?_⟩
  · intro b hb
    simp only [List.mem_map, List.mem_range] at hb
    obtain ⟨i, hi, rfl⟩ := hb
    exact (hf i hi).2
  · apply List.ext_getElem?
    intro i
    by_cases hi : i < 16
    · rw [(hf i hi).1]; simp [idv, hi]
    · rw [List.getElem?_eq_none (by omega), List.getElem?_eq_none (by simp [idv]; omega)]

set_option maxRecDepth 100000 in
theorem open23 {v : Value} {d : DataW H} {ps : List MemPlace} {b0 : Nat} (hv : Value.okWide Yba.prog W .any b0 23 v) (h : DataW.Trod enc Yba.prog W base sp held 23 v d ps) : ∃ I, Id16 I ∧ v = .agg (idv I) := by
  obtain ⟨xs, rfl, _⟩ := WideMaps.okWide_arr arr23 hv
  obtain ⟨fuel, hf⟩ := h
  obtain ⟨I, hI, e⟩ := trod_id hf
  refine ⟨I, hI, ?_⟩
  have : xs.toList = (idv I).toList := e
  rw [Array.toList_inj.1 this]

theorem open22 {a : Option Addr} {len cap : Nat} {d : DataW H} {ps : List MemPlace} (h : DataW.Trod enc Yba.prog W base sp held 22 (.slice a len cap) d ps) : ∃ ids, IsIds W a len ids := by
  obtain ⟨fuel, hf⟩ := h
  rcases Deep.open_slice Yba.underlying22 hf with ⟨hcs, _⟩ | ⟨x, l, cp, m, n, D, Pl, hcs, _, hl, hm, hmm, _, hx⟩
  · simp [Value.cells] at hcs
    obtain ⟨rfl, rfl, rfl⟩ := hcs
    exact ⟨[], rfl, by simp, .inl rfl⟩
  · simp [Value.cells] at hcs
    obtain ⟨rfl, rfl, rfl⟩ := hcs
    have hlm : len ≤ m := by rw [hmm]; split <;> omega
    rw [cells23] at hx
    have key : ∀ i, i < len → ∃ I, Id16 I ∧ ∀ j v, (idv I).toList[j]? = some v → W.cell? ((x.add (i * 16)).add j) = some v := by
      intro i hi
      obtain ⟨cs', h1, h2⟩ := hx i (by omega)
      obtain ⟨I, hI, rfl⟩ := trod_id h2
      obtain ⟨_, hlen, hc⟩ := World.cells?_some h1
      refine ⟨I, hI, fun j v hv => ?_⟩
      have hj := (List.getElem?_eq_some_iff.1 hv).1
      rw [hc j (by omega), hv]
    obtain ⟨f, hf'⟩ := Deep.choose_lt key
    by_cases h0 : len = 0
    · exact ⟨[], h0.symm, by simp, .inl h0⟩
    · have h00 : W.cell? (x.add 0) = some ((idv (f 0)).toList[0]'(by have := idv_size (hf' 0 (by omega)).1; simp; omega)) := by
        have := (hf' 0 (by omega)).2 0 _ (List.getElem?_eq_getElem (by have := idv_size (hf' 0 (by omega)).1; simp; omega))
        simpa [Addr.add] using this
      obtain ⟨b, off, spot⟩ := x
      have hspot : spot = none := by simpa [Addr.add] using World.cell?_spot h00
      subst hspot
      refine ⟨(List.range len).map f, by simp, ?_, .inr ⟨b, off, rfl, World.block_lt_of_cell? W _ (by simpa [Addr.add] using h00), ?_⟩⟩
      · intro I hI
        simp only [List.mem_map, List.mem_range] at hI
        obtain ⟨i, hi, rfl⟩ := hI
        exact (hf' i hi).1
      · intro i hi j v hv
        have := (hf' i hi).2 j v (by simpa [hi] using hv)
        rw [WideShapes.add_plain, WideShapes.add_plain] at this
        exact this
end

theorem in_u8 {n : Int} (h : (Lit.int .u8 n).wf = true) : 0 ≤ n ∧ n ≤ 255 := by
  simp [Lit.wf, IntKind.min, IntKind.max, IntKind.signed, IntKind.bits] at h
  omega
theorem in_i32 {n : Int} (h : (Lit.int .i32 n).wf = true) : -2147483648 ≤ n ∧ n ≤ 2147483647 := by
  simp [Lit.wf, IntKind.min, IntKind.max, IntKind.signed, IntKind.bits] at h
  omega

theorem walk (a0 : Option Addr) (len0 cap0 : Nat) (ids : List (List Int)) (P : List Int) (md h c nw per : Int) (w : World) (w0 : IsIds w a0 len0 ids) (wP : Id16 P) (w2 : (Lit.int .u8 md).wf = true)
    (w3 : (Lit.int .i32 h).wf = true) (w4 : (Lit.int .i32 c).wf = true) (w5 : (Lit.int .i32 nw).wf = true) (w6 : (Lit.int .i32 per).wf = true) :
    Calls Yba.prog 3 #[.slice a0 len0 cap0, .agg (idv P), .int .u8 md, .int .i32 h, .int .i32 c, .int .i32 nw, .int .i32 per] w fun e w' => e = .returned (.bool true) ∧ Below w.heap.size w w' := by
  by_cases hle : len0 ≤ 65536
  · have b2 := in_u8 w2
    have b3 := in_i32 w3
    have b4 := in_i32 w4
    have b5 := in_i32 w5
    have b6 := in_i32 w6
    exact law_small a0 len0 cap0 ids P md h c nw per w w0 wP b2 b3 b4 b5 b6 hle
  · exact walk_big a0 len0 cap0 P md h c nw per w (by omega)

set_option maxRecDepth 100000 in
theorem lifted (os : Os) (started : os.Started) (H : Type) (enc : TypeId × Value → H) :
    ReturnsInHanded {} Yba.checked os 3 .any (Rows.lawS6177AWholeSpec.pre6 enc Yba.prog Yba.f3 Rows.lawS6177AWholeRow.domain false) (Rows.lawS6177AWholeSpec.post enc Yba.prog Yba.f3 false true false false) := by
  refine returnsInHanded_of_change (C := Yba.checked) own started (by kernel_rfl) Yba.func3
    (ChangeSpec.witness6 (enc := enc) (C := Yba.checked) false ⟨#[], #[.slice none 0 0, .agg #[.int .u8 0, .int .u8 0, .int .u8 0, .int .u8 0, .int .u8 0, .int .u8 0, .int .u8 0, .int .u8 0, .int .u8 0, .int .u8 0, .int .u8 0, .int .u8 0, .int .u8 0, .int .u8 0, .int .u8 0, .int .u8 0], .int .u8 0, .int .i32 0, .int .i32 0, .int .i32 0, .int .i32 0], []⟩ 8 (by kernel_rfl) (by kernel_rfl) (by kernel_rfl) (by kernel_rfl)) ?_
  intro W base args ds gs before hval0 hW _ _
  have hval : ∀ (j : Nat) t v, Yba.f3.params[j]? = some t → args[j]? = some v → Value.okWide Yba.prog W .any base t v := hval0
  have hW' := hW
  obtain ⟨p, q, hA0, hV, rfl, _, _⟩ := hW
  have hA : DataW.TrodAll enc Yba.prog W 0 (fun _ => true) true Yba.f3.params.toList args.toList ds p := hA0
  rw [Yba.params3] at hA hval
  obtain ⟨v0, vs0, d0, ds0, p0, q0, hargs, rfl, rfl, h0, r0⟩ := trodAll_cons hA
  obtain ⟨v1, vs1, d1, ds1, p1, q1, rfl, rfl, rfl, h1, r1⟩ := trodAll_cons r0
  obtain ⟨v2, vs2, d2, ds2, p2, q2, rfl, rfl, rfl, h2, r2⟩ := trodAll_cons r1
  obtain ⟨v3, vs3, d3, ds3, p3, q3, rfl, rfl, rfl, h3, r3⟩ := trodAll_cons r2
  obtain ⟨v4, vs4, d4, ds4, p4, q4, rfl, rfl, rfl, h4, r4⟩ := trodAll_cons r3
  obtain ⟨v5, vs5, d5, ds5, p5, q5, rfl, rfl, rfl, h5, r5⟩ := trodAll_cons r4
  obtain ⟨v6, vs6, d6, ds6, p6, q6, rfl, rfl, rfl, h6, r6⟩ := trodAll_cons r5
  obtain ⟨rfl, rfl, rfl⟩ := trodAll_nil r6
  obtain rfl : args = #[v0, v1, v2, v3, v4, v5, v6] := by cases args; simp_all
  obtain ⟨rfl, rfl⟩ := trodVars_none hV
  obtain ⟨a0, len0, cap0, rfl⟩ := okWide_slice Yba.underlying22 (hval 0 22 v0 rfl rfl)
  have k0 := h0
  have lt0 : ∀ x ∈ p0, x.block < W.heap.size := by obtain ⟨m, hm⟩ := k0; exact DataW.trod_lt m _ _ _ hm
  obtain ⟨ids, w0⟩ := open22 h0
  have k1 := h1
  have lt1 : ∀ x ∈ p1, x.block < W.heap.size := by obtain ⟨m, hm⟩ := k1; exact DataW.trod_lt m _ _ _ hm
  obtain ⟨P, w1, rfl⟩ := open23 (hval 1 23 v1 rfl rfl) h1
  obtain ⟨a2, rfl, rfl, rfl, w2⟩ := open_int Yba.underlying5 (hval 2 5 v2 rfl rfl) h2
  obtain ⟨a3, rfl, rfl, rfl, w3⟩ := open_int Yba.underlying21 (hval 3 21 v3 rfl rfl) h3
  obtain ⟨a4, rfl, rfl, rfl, w4⟩ := open_int Yba.underlying21 (hval 4 21 v4 rfl rfl) h4
  obtain ⟨a5, rfl, rfl, rfl, w5⟩ := open_int Yba.underlying21 (hval 5 21 v5 rfl rfl) h5
  obtain ⟨a6, rfl, rfl, rfl, w6⟩ := open_int Yba.underlying21 (hval 6 21 v6 rfl rfl) h6
  clear hA0 hval0
  refine (walk a0 len0 cap0 ids P a2 a3 a4 a5 a6 W w0 w1 w2 w3 w4 w5 w6).mono fun e' W' ⟨he, bel⟩ => ?_
  subst he
  exact ⟨_, rfl, _, _, _, [], _, [], hW', trodAll_mk1 (shut_bool Yba.underlying4 _), (trodAll_cons_mk (Below.trod laidOut (by kernel_rfl) (of_decide_eq_true (by kernel_rfl)) k0 bel lt0) (trodAll_cons_mk (Below.trod laidOut (by kernel_rfl) (of_decide_eq_true (by kernel_rfl)) k1 bel lt1) (trodAll_cons_mk (shut_int Yba.underlying5 w2) (trodAll_cons_mk (shut_int Yba.underlying21 w3) (trodAll_cons_mk (shut_int Yba.underlying21 w4) (trodAll_cons_mk (shut_int Yba.underlying21 w5) (trodAll_cons_mk (shut_int Yba.underlying21 w6) trodAll_mk0))))))), rfl, bel.frame _, fun h => by cases h⟩

theorem over : Rows.lawS6177AWholeRow.holds Yba.pinned (OpenSpec.ofChange Rows.lawS6177AWholeSpec) :=
  OpenClaim.holds_of_wide 3 Yba.f3 rfl rfl rfl rfl rfl rfl rfl ⟨rfl, rfl, rfl, rfl, rfl⟩ rfl rfl rfl rfl rfl (by kernel_rfl) Yba.func3 (by kernel_rfl)
    (of_decide_eq_true (by kernel_rfl)) (by unfold Func.isWrapper; first | (rw [if_pos (by decide +kernel)]; kernel_rfl) | (rw [if_neg (by decide +kernel)]; exact ⟨rfl, rfl⟩))
    (fun os started H enc _ => lifted os started H enc)

/-- THE STATEMENT -/
theorem proved : Rows.LawS6177AWholeSaid := over
end Go.Proofs.Ybulkdwxc.lawS6177AWhole

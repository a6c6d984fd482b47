/-
  THE ROW 'Rows.LawS6176CWholeSaid': the frame after the guide's shell (proof-skeleton.mjs); the walk: YbulkdwwoC3.lean.
-/
import Derived.Test.YbulkdwwoC3
import Derived.WalkKit
import Derived.ProofKit
import Derived.OpenShut
import Derived.ShutString
import Derived.ChangeOld
import Derived.Below
namespace Go.Proofs.Ybulkdwwo.lawS6176CWhole
open Go.ChangeShapes Go.WideShapes Go.ChangeAt Go.RowKit

theorem own : ownKnob Yba.prog.godebug = none := by kernel_rfl
theorem laidOut : laidOutB Yba.prog = true := by kernel_rfl
theorem cells37 : Yba.prog.cellsOf 37 = 17 := by kernel_rfl
theorem cells3 : Yba.prog.cellsOf 3 = 1 := by kernel_rfl
theorem cells2 : Yba.prog.cellsOf 2 = 1 := by kernel_rfl
theorem cells4 : Yba.prog.cellsOf 4 = 1 := by kernel_rfl

theorem list17 {α : Type} (l : List α) (h : l.length = 17) : ∃ c0 c1 c2 c3 c4 c5 c6 c7 c8 c9 c10 c11 c12 c13 c14 c15 c16, l = [c0, c1, c2, c3, c4, c5, c6, c7, c8, c9, c10, c11, c12, c13, c14, c15, c16] := by
  obtain _ | ⟨c0, l⟩ := l
  · simp at h
  obtain _ | ⟨c1, l⟩ := l
  · simp at h
  obtain _ | ⟨c2, l⟩ := l
  · simp at h
  obtain _ | ⟨c3, l⟩ := l
  · simp at h
  obtain _ | ⟨c4, l⟩ := l
  · simp at h
  obtain _ | ⟨c5, l⟩ := l
  · simp at h
  obtain _ | ⟨c6, l⟩ := l
  · simp at h
  obtain _ | ⟨c7, l⟩ := l
  · simp at h
  obtain _ | ⟨c8, l⟩ := l
  · simp at h
  obtain _ | ⟨c9, l⟩ := l
  · simp at h
  obtain _ | ⟨c10, l⟩ := l
  · simp at h
  obtain _ | ⟨c11, l⟩ := l
  · simp at h
  obtain _ | ⟨c12, l⟩ := l
  · simp at h
  obtain _ | ⟨c13, l⟩ := l
  · simp at h
  obtain _ | ⟨c14, l⟩ := l
  · simp at h
  obtain _ | ⟨c15, l⟩ := l
  · simp at h
  obtain _ | ⟨c16, l⟩ := l
  · simp at h
  obtain _ | ⟨c17, l⟩ := l
  · exact ⟨c0, c1, c2, c3, c4, c5, c6, c7, c8, c9, c10, c11, c12, c13, c14, c15, c16, rfl⟩
  · simp at h

set_option maxRecDepth 100000 in
/-- THE STRUCT THAT CAME IN: seventeen cells, each of its kind. -/
theorem open37 {H : Type} {enc : TypeId × Value → H} {W : World} {base : Nat} {sp : Nat → Bool} {held : Bool} {b0 : Nat} {v : Value} {d : DataW H} {ps : List MemPlace} (hv : Value.okWide Yba.prog W .any base 37 v) (h : DataW.Trod enc Yba.prog W b0 sp held 37 v d ps) :
    ∃ (b m e i : Int) (nw : Bool) (mm mb st aw bb be by_ ho hm buf bufB : Int) (idle : Bool), v = .agg #[.int .i64 b, .int .i64 m, .int .i64 e, .int .i64 i, .bool nw, .int .i64 mm, .int .i64 mb, .int .i64 st, .int .i64 aw, .int .i64 bb, .int .i64 be, .int .i64 by_, .int .i64 ho, .int .i64 hm, .int .i64 buf, .int .i64 bufB, .bool idle] := by
  obtain ⟨cs, rfl, hsz⟩ := okWide_struct Yba.underlying37 hv
  obtain ⟨fuel, hf⟩ := h
  obtain ⟨xs, n, rfl, _, hl, hxl, hfield⟩ := DataW.trod_struct Yba.underlying37 hf
  rw [cells37] at hsz
  have hx : ∀ i, i < 17 → ∃ x, xs[i]? = some x := fun i hi => ⟨_, List.getElem?_eq_getElem (by rw [hxl]; exact hi)⟩
  obtain ⟨c0, c1, c2, c3, c4, c5, c6, c7, c8, c9, c10, c11, c12, c13, c14, c15, c16, hcs⟩ := list17 cs.toList (by simpa using hsz)
  have hc : (Value.agg cs).cells.toList = [c0, c1, c2, c3, c4, c5, c6, c7, c8, c9, c10, c11, c12, c13, c14, c15, c16] := hcs
  rw [hc] at hfield
  obtain ⟨x0, hx0⟩ := hx 0 (by decide)
  have t0 := (hfield 0 _ rfl).trans hx0
  obtain ⟨a0, e0, _⟩ := DataW.trod_int Yba.underlying3 t0
  simp [cells3] at e0
  obtain ⟨x1, hx1⟩ := hx 1 (by decide)
  have t1 := (hfield 1 _ rfl).trans hx1
  obtain ⟨a1, e1, _⟩ := DataW.trod_int Yba.underlying3 t1
  simp [cells3] at e1
  obtain ⟨x2, hx2⟩ := hx 2 (by decide)
  have t2 := (hfield 2 _ rfl).trans hx2
  obtain ⟨a2, e2, _⟩ := DataW.trod_int Yba.underlying2 t2
  simp [cells2] at e2
  obtain ⟨x3, hx3⟩ := hx 3 (by decide)
  have t3 := (hfield 3 _ rfl).trans hx3
  obtain ⟨a3, e3, _⟩ := DataW.trod_int Yba.underlying2 t3
  simp [cells2] at e3
  obtain ⟨x4, hx4⟩ := hx 4 (by decide)
  have t4 := (hfield 4 _ rfl).trans hx4
  obtain ⟨a4, e4, _⟩ := DataW.trod_bool Yba.underlying4 t4
  simp [cells4] at e4
  obtain ⟨x5, hx5⟩ := hx 5 (by decide)
  have t5 := (hfield 5 _ rfl).trans hx5
  obtain ⟨a5, e5, _⟩ := DataW.trod_int Yba.underlying3 t5
  simp [cells3] at e5
  obtain ⟨x6, hx6⟩ := hx 6 (by decide)
  have t6 := (hfield 6 _ rfl).trans hx6
  obtain ⟨a6, e6, _⟩ := DataW.trod_int Yba.underlying3 t6
  simp [cells3] at e6
  obtain ⟨x7, hx7⟩ := hx 7 (by decide)
  have t7 := (hfield 7 _ rfl).trans hx7
  obtain ⟨a7, e7, _⟩ := DataW.trod_int Yba.underlying3 t7
  simp [cells3] at e7
  obtain ⟨x8, hx8⟩ := hx 8 (by decide)
  have t8 := (hfield 8 _ rfl).trans hx8
  obtain ⟨a8, e8, _⟩ := DataW.trod_int Yba.underlying3 t8
  simp [cells3] at e8
  obtain ⟨x9, hx9⟩ := hx 9 (by decide)
  have t9 := (hfield 9 _ rfl).trans hx9
  obtain ⟨a9, e9, _⟩ := DataW.trod_int Yba.underlying3 t9
  simp [cells3] at e9
  obtain ⟨x10, hx10⟩ := hx 10 (by decide)
  have t10 := (hfield 10 _ rfl).trans hx10
  obtain ⟨a10, e10, _⟩ := DataW.trod_int Yba.underlying2 t10
  simp [cells2] at e10
  obtain ⟨x11, hx11⟩ := hx 11 (by decide)
  have t11 := (hfield 11 _ rfl).trans hx11
  obtain ⟨a11, e11, _⟩ := DataW.trod_int Yba.underlying3 t11
  simp [cells3] at e11
  obtain ⟨x12, hx12⟩ := hx 12 (by decide)
  have t12 := (hfield 12 _ rfl).trans hx12
  obtain ⟨a12, e12, _⟩ := DataW.trod_int Yba.underlying3 t12
  simp [cells3] at e12
  obtain ⟨x13, hx13⟩ := hx 13 (by decide)
  have t13 := (hfield 13 _ rfl).trans hx13
  obtain ⟨a13, e13, _⟩ := DataW.trod_int Yba.underlying3 t13
  simp [cells3] at e13
  obtain ⟨x14, hx14⟩ := hx 14 (by decide)
  have t14 := (hfield 14 _ rfl).trans hx14
  obtain ⟨a14, e14, _⟩ := DataW.trod_int Yba.underlying3 t14
  simp [cells3] at e14
  obtain ⟨x15, hx15⟩ := hx 15 (by decide)
  have t15 := (hfield 15 _ rfl).trans hx15
  obtain ⟨a15, e15, _⟩ := DataW.trod_int Yba.underlying3 t15
  simp [cells3] at e15
  obtain ⟨x16, hx16⟩ := hx 16 (by decide)
  have t16 := (hfield 16 _ rfl).trans hx16
  obtain ⟨a16, e16, _⟩ := DataW.trod_bool Yba.underlying4 t16
  simp [cells4] at e16
  subst e0 e1 e2 e3 e4 e5 e6 e7 e8 e9 e10 e11 e12 e13 e14 e15 e16
  refine ⟨a0, a1, a2, a3, a4, a5, a6, a7, a8, a9, a10, a11, a12, a13, a14, a15, a16, ?_⟩
  rw [← Array.toList_inj.1 (show cs.toList = [.int .i64 a0, .int .i64 a1, .int .i64 a2, .int .i64 a3, .bool a4, .int .i64 a5, .int .i64 a6, .int .i64 a7, .int .i64 a8, .int .i64 a9, .int .i64 a10, .int .i64 a11, .int .i64 a12, .int .i64 a13, .int .i64 a14, .int .i64 a15, .bool a16].toArray.toList from hcs)]

set_option maxRecDepth 100000 in
theorem lifted (os : Os) (started : os.Started) (H : Type) (enc : TypeId × Value → H) :
    ReturnsInHanded {} Yba.checked os 4 .any (Rows.lawS6176CWholeSpec.pre6 enc Yba.prog Yba.f4 Rows.lawS6176CWholeRow.domain false) (Rows.lawS6176CWholeSpec.post enc Yba.prog Yba.f4 false true false false) := by
  refine returnsInHanded_of_change (C := Yba.checked) own started (by kernel_rfl) Yba.func4
    (ChangeSpec.witness6 (enc := enc) (C := Yba.checked) false ⟨#[], #[.agg #[.int .i64 0, .int .i64 0, .int .i64 0, .int .i64 0, .bool false, .int .i64 0, .int .i64 0, .int .i64 0, .int .i64 0, .int .i64 0, .int .i64 0, .int .i64 0, .int .i64 0, .int .i64 0, .int .i64 0, .int .i64 0, .bool false]], []⟩ 8 (by kernel_rfl) (by kernel_rfl) (by kernel_rfl) (by kernel_rfl)) ?_
  intro W base args ds gs before hval0 hW _ _
  have hval : ∀ (j : Nat) t v, Yba.f4.params[j]? = some t → args[j]? = some v → Value.okWide Yba.prog W .any base t v := hval0
  have hW' := hW
  obtain ⟨p, q, hA0, hV, rfl, _, _⟩ := hW
  have hA : DataW.TrodAll enc Yba.prog W 0 (fun _ => true) true Yba.f4.params.toList args.toList ds p := hA0
  rw [Yba.params4] at hA hval
  obtain ⟨v0, vs0, d0, ds0, p0, q0, hargs, rfl, rfl, h0, r0⟩ := trodAll_cons hA
  obtain ⟨rfl, rfl, rfl⟩ := trodAll_nil r0
  obtain rfl : args = #[v0] := by cases args; simp_all
  obtain ⟨rfl, rfl⟩ := trodVars_none hV
  have k0 := h0
  have lt0 : ∀ x ∈ p0, x.block < W.heap.size := by obtain ⟨m, hm⟩ := k0; exact DataW.trod_lt m _ _ _ hm
  obtain ⟨b, m, e, i, nw, mm, mb, st, aw, bb, be, by_, ho, hm, buf, bufB, idle, rfl⟩ := open37 (hval 0 37 v0 rfl rfl) h0
  clear hA0 hval0
  refine (c_walk b m e i nw mm mb st aw bb be by_ ho hm buf bufB idle W).mono fun e' W' ⟨he, bel⟩ => ?_
  subst he
  exact ⟨_, rfl, _, _, _, [], _, [], hW', trodAll_mk1 (shut_bool Yba.underlying4 _), trodAll_cons_mk (Below.trod laidOut (by kernel_rfl) (of_decide_eq_true (by kernel_rfl)) k0 bel lt0) trodAll_mk0, rfl, bel.frame _, fun h => by cases h⟩

theorem over : Rows.lawS6176CWholeRow.holds Yba.pinned (OpenSpec.ofChange Rows.lawS6176CWholeSpec) :=
  OpenClaim.holds_of_wide 4 Yba.f4 rfl rfl rfl rfl rfl rfl rfl ⟨rfl, rfl, rfl, rfl, rfl⟩ rfl rfl rfl rfl rfl (by kernel_rfl) Yba.func4 (by kernel_rfl)
    (of_decide_eq_true (by kernel_rfl)) (by unfold Func.isWrapper; first | (rw [if_pos (by decide +kernel)]; kernel_rfl) | (rw [if_neg (by decide +kernel)]; exact ⟨rfl, rfl⟩))
    (fun os started H enc _ => lifted os started H enc)

/-- THE STATEMENT -/
theorem proved : Rows.LawS6176CWholeSaid := over
end Go.Proofs.Ybulkdwwo.lawS6176CWhole

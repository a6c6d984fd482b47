/-
  THE ROW 'Rows.LawS6178APartSaid': the frame after the guide's shell (proof-skeleton.mjs); the walk: YbulkdwxqS8.lean.
-/
import Derived.Test.YbulkdwxqS8
import Derived.WalkKit
import Derived.ProofKit
import Derived.OpenShut
import Derived.ShutString
import Derived.ChangeOld
import Derived.Below
import Derived.Deep.Slices
namespace Go.Proofs.Ybulkdwxq.lawS6178APart
open Go.ChangeShapes Go.WideShapes Go.ChangeAt Go.RowKit

theorem own : ownKnob Yba.prog.godebug = none := by kernel_rfl
theorem laidOut : laidOutB Yba.prog = true := by kernel_rfl
theorem cells25 : Yba.prog.cellsOf 25 = 3 := by kernel_rfl
theorem cells3 : Yba.prog.cellsOf 3 = 1 := by kernel_rfl

set_option maxRecDepth 100000 in
theorem walk_big (a0 : Option Addr) (N cap0 : Nat) (v : Int) (w : World) (hb : 1048576 < N) :
    Calls Yba.prog 3 #[.slice a0 N cap0, .int .i64 v] w fun e w' => e = .returned (.bool true) ∧ Below w.heap.size w w' := by
  have hb' : (1048576 : Int) < (N : Int) := by omega
  go_enter Yba.func3, Yba.ntmps3
  go_wp2_with fail
  go_ret
  exact ⟨rfl, Below.refl _ _⟩

/-- The cells of one registration that came in. -/
def regCells (m : Int × Int × Int) : List Value := [.int .i64 m.1, .int .i64 m.2.1, .int .i64 m.2.2]

section
variable {H : Type} {enc : TypeId × Value → H} {W : World} {base : Nat} {sp : Nat → Bool} {held : Bool}
theorem one_cell {cs : List Value} {o : Nat} {v : Value} (h : (cs.drop o).take 1 = [v]) : cs[o]? = some v := by
  have := congrArg (fun l : List Value => l[0]?) h
  simpa [List.getElem?_take, List.getElem?_drop] using this
theorem trod_reg {fuel : Nat} {cs : List Value} {x : DataW H × List MemPlace} (h : DataW.trod enc Yba.prog W base sp held fuel 25 cs = some x) : ∃ m : Int × Int × Int, cs = regCells m := by
  obtain ⟨xs, n, rfl, _, hl, hxl, hel⟩ := DataW.trod_struct Yba.underlying25 h
  rw [cells25] at hl
  have h0 : DataW.trod enc Yba.prog W base sp held n 3 ((cs.drop 0).take (Yba.prog.cellsOf 3)) = xs[0]? := hel 0 _ rfl
  have h1 : DataW.trod enc Yba.prog W base sp held n 3 ((cs.drop 1).take (Yba.prog.cellsOf 3)) = xs[1]? := hel 1 _ rfl
  have h2 : DataW.trod enc Yba.prog W base sp held n 3 ((cs.drop 2).take (Yba.prog.cellsOf 3)) = xs[2]? := hel 2 _ rfl
  simp only [List.size_toArray, List.length_cons, List.length_nil] at hxl
  rw [List.getElem?_eq_getElem (show 0 < xs.length by omega)] at h0
  rw [List.getElem?_eq_getElem (show 1 < xs.length by omega)] at h1
  rw [List.getElem?_eq_getElem (show 2 < xs.length by omega)] at h2
  obtain ⟨k, e0, _, _⟩ := DataW.trod_int Yba.underlying3 h0
  obtain ⟨p, e1, _, _⟩ := DataW.trod_int Yba.underlying3 h1
  obtain ⟨a, e2, _, _⟩ := DataW.trod_int Yba.underlying3 h2
  rw [cells3] at e0 e1 e2
  replace e0 := one_cell e0
  replace e1 := one_cell e1
  replace e2 := one_cell e2
  refine ⟨(k, p, a), ?_⟩
  apply List.ext_getElem?
  intro i
  match i with
  | 0 => exact e0
  | 1 => exact e1
  | 2 => exact e2
  | i + 3 => rw [List.getElem?_eq_none (by omega)]; rfl

theorem open22 {a : Option Addr} {len cap : Nat} {d : DataW H} {ps : List MemPlace} (h : DataW.Trod enc Yba.prog W base sp held 22 (.slice a len cap) d ps) :
    ∃ S I E : Nat → Int, IsReg W a len S I E := by
  obtain ⟨fuel, hf⟩ := h
  rcases Deep.open_slice Yba.underlying22 hf with ⟨hcs, _⟩ | ⟨x, l, cp, m, n, D, Pl, hcs, _, hl, hm, hmm, _, hx⟩
  · simp [Value.cells] at hcs
    obtain ⟨rfl, rfl, rfl⟩ := hcs
    exact ⟨fun _ => 0, fun _ => 0, fun _ => 0, .inl rfl⟩
  · simp [Value.cells] at hcs
    obtain ⟨rfl, rfl, rfl⟩ := hcs
    have hlm : len ≤ m := by rw [hmm]; split <;> omega
    rw [cells25] at hx
    have key : ∀ i, i < len → ∃ m : Int × Int × Int, ∀ j v, (regCells m)[j]? = some v → W.cell? ((x.add (i * 3)).add j) = some v := by
      intro i hi
      obtain ⟨cs', h1, h2⟩ := hx i (by omega)
      obtain ⟨m, rfl⟩ := trod_reg h2
      obtain ⟨_, hlen, hc⟩ := World.cells?_some h1
      refine ⟨m, fun j v hv => ?_⟩
      have hj := (List.getElem?_eq_some_iff.1 hv).1
      rw [hc j (by omega), hv]
    obtain ⟨f, hf'⟩ := Deep.choose_lt key
    refine ⟨fun i => (f i).1, fun i => (f i).2.1, fun i => (f i).2.2, ?_⟩
    by_cases h0 : len = 0
    · exact .inl h0
    · have h00 : W.cell? (x.add 0) = some (.int .i64 (f 0).1) := by
        have := hf' 0 (by omega) 0 _ rfl
        simpa [Addr.add] using this
      obtain ⟨b, off, spot⟩ := x
      have hspot : spot = none := by simpa [Addr.add] using World.cell?_spot h00
      subst hspot
      refine .inr ⟨b, off, rfl, World.block_lt_of_cell? W _ (by simpa [Addr.add] using h00), ?_⟩
      intro i hi j v hv
      have := hf' i hi j v hv
      rw [WideShapes.add_plain, WideShapes.add_plain] at this
      exact this
end

theorem walk (a0 : Option Addr) (N cap0 : Nat) (S I E : Nat → Int) (v : Int) (w : World) (h0 : IsReg w a0 N S I E) :
    Calls Yba.prog 3 #[.slice a0 N cap0, .int .i64 v] w fun e w' => e = .returned (.bool true) ∧ Below w.heap.size w w' := by
  by_cases hN : N ≤ 1048576
  · exact law_small a0 N cap0 S I E v w h0 hN
  · exact walk_big a0 N cap0 v w (by omega)

set_option maxRecDepth 100000 in
theorem lifted (os : Os) (started : os.Started) (H : Type) (enc : TypeId × Value → H) :
    ReturnsInHanded {} Yba.checked os 3 .any (Rows.lawS6178APartSpec.pre6 enc Yba.prog Yba.f3 Rows.lawS6178APartRow.domain false) (Rows.lawS6178APartSpec.post enc Yba.prog Yba.f3 false true false false) := by
  refine returnsInHanded_of_change (C := Yba.checked) own started (by kernel_rfl) Yba.func3
    (ChangeSpec.witness6 (enc := enc) (C := Yba.checked) false ⟨#[], #[.slice none 0 0, .int .i64 0], []⟩ 8 (by kernel_rfl) (by kernel_rfl) (by kernel_rfl) (by kernel_rfl)) ?_
  intro W base args ds gs before hval0 hW _ _
  have hval : ∀ (j : Nat) t v, Yba.f3.params[j]? = some t → args[j]? = some v → Value.okWide Yba.prog W .any base t v := hval0
  have hW' := hW
  obtain ⟨p, q, hA0, hV, rfl, _, _⟩ := hW
  have hA : DataW.TrodAll enc Yba.prog W 0 (fun _ => true) true Yba.f3.params.toList args.toList ds p := hA0
  rw [Yba.params3] at hA hval
  obtain ⟨v0, vs0, d0, ds0, p0, q0, hargs, rfl, rfl, h0, r0⟩ := trodAll_cons hA
  obtain ⟨v1, vs1, d1, ds1, p1, q1, rfl, rfl, rfl, h1, r1⟩ := trodAll_cons r0
  obtain ⟨rfl, rfl, rfl⟩ := trodAll_nil r1
  obtain rfl : args = #[v0, v1] := by cases args; simp_all
  obtain ⟨rfl, rfl⟩ := trodVars_none hV
  obtain ⟨a0, len0, cap0, rfl⟩ := okWide_slice Yba.underlying22 (hval 0 22 v0 rfl rfl)
  have k0 := h0
  have lt0 : ∀ x ∈ p0, x.block < W.heap.size := by obtain ⟨m, hm⟩ := k0; exact DataW.trod_lt m _ _ _ hm
  obtain ⟨S, I, E, m0⟩ := open22 h0
  obtain ⟨a1, rfl, rfl, rfl, w1⟩ := open_int Yba.underlying3 (hval 1 3 v1 rfl rfl) h1
  clear hA0 hval0
  refine (walk a0 len0 cap0 S I E a1 W m0).mono fun e' W' ⟨he, bel⟩ => ?_
  subst he
  exact ⟨_, rfl, _, _, _, [], _, [], hW', trodAll_mk1 (shut_bool Yba.underlying4 _), (trodAll_cons_mk (Below.trod laidOut (by kernel_rfl) (of_decide_eq_true (by kernel_rfl)) k0 bel lt0) (trodAll_cons_mk (shut_int Yba.underlying3 w1) trodAll_mk0)), rfl, bel.frame _, fun h => by cases h⟩

theorem over : Rows.lawS6178APartRow.holds Yba.pinned (OpenSpec.ofChange Rows.lawS6178APartSpec) :=
  OpenClaim.holds_of_wide 3 Yba.f3 rfl rfl rfl rfl rfl rfl rfl ⟨rfl, rfl, rfl, rfl, rfl⟩ rfl rfl rfl rfl rfl (by kernel_rfl) Yba.func3 (by kernel_rfl)
    (of_decide_eq_true (by kernel_rfl)) (by unfold Func.isWrapper; first | (rw [if_pos (by decide +kernel)]; kernel_rfl) | (rw [if_neg (by decide +kernel)]; exact ⟨rfl, rfl⟩))
    (fun os started H enc _ => lifted os started H enc)

/-- THE STATEMENT -/
theorem proved : Rows.LawS6178APartSaid := over
end Go.Proofs.Ybulkdwxq.lawS6178APart

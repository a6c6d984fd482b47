/-
  The seat's own small laws: a map whose elements read as themselves; 'Turn S w w'': w' is w but for the blocks in S and new ones.
-/
import Derived.Test.YbulkdwtiRows
import Derived.WalkKit
import Derived.WalkSpells
import Derived.WalkLawsBesides
import Derived.Maps.OwnSet
import Derived.Deep.Draws
namespace Go.Proofs.Ybulkdwti
open Go.RowKit Go.Maps

/-- EVERY ELEMENT READS AS ITSELF. -/
def selfElem (v : Value) : Option (DataW Value × List MemPlace) := some (.held v, [])

theorem lookup_self {P : Program} {k e t : TypeId} {w : World} {b n : Nat} {D : DataW Value} (h : w.ownsMap P k selfElem b n D) (K : Keyed P k) (ht : P.underlying t = some (.map k e)) {z v : Value}
    (hz : (zeroValue e).run P w = .ok z w) {key : Value} {kl : Lit} (hkey : keyOf P k key = some kl) (hv : D.atKey kl (.held z) = .held v) :
    (Instr.lookup t (.map (some b)) key false).run P w = .ok v w := by
  obtain ⟨u, ps, hrun, hu⟩ := h.lookup K ht hz (zd := .held z) (zp := []) rfl hkey
  rw [hv] at hu
  simp only [selfElem, Option.some.injEq, Prod.mk.injEq, DataW.held.injEq] at hu
  obtain ⟨rfl, _⟩ := hu
  exact hrun

theorem lookup_self_ok {P : Program} {k e t : TypeId} {w : World} {b n : Nat} {D : DataW Value} (h : w.ownsMap P k selfElem b n D) (K : Keyed P k) (ht : P.underlying t = some (.map k e)) {z v : Value}
    (hz : (zeroValue e).run P w = .ok z w) {key : Value} {kl : Lit} (hkey : keyOf P k key = some kl) (hv : D.atKey kl (.held z) = .held v) :
    (Instr.lookup t (.map (some b)) key true).run P w = .ok (.tuple #[v, .bool (Maps.has D kl)]) w := by
  obtain ⟨u, ps, hrun, hu⟩ := h.look_ok K ht hz (zd := .held z) (zp := []) rfl hkey
  rw [hv] at hu
  simp only [selfElem, Option.some.injEq, Prod.mk.injEq, DataW.held.injEq] at hu
  obtain ⟨rfl, _⟩ := hu
  exact hrun

/-- w' IS w BUT FOR THE BLOCKS IN S, AND NEW ONES. -/
structure Turn (S : Nat → Prop) (w w' : World) : Prop where
  os : w'.os = w.os
  tape : w'.tape = w.tape
  output : w'.output = w.output
  size : w.heap.size ≤ w'.heap.size
  block : ∀ k, k < w.heap.size → ¬ S k → w'.heap[k]? = w.heap[k]?

theorem Turn.refl (S : Nat → Prop) (w : World) : Turn S w w := ⟨rfl, rfl, rfl, Nat.le_refl _, fun _ _ _ => rfl⟩
theorem Turn.trans {S : Nat → Prop} {a b c : World} (h : Turn S a b) (k : Turn S b c) : Turn S a c :=
  ⟨k.os.trans h.os, k.tape.trans h.tape, k.output.trans h.output, Nat.le_trans h.size k.size, fun i hi hS => (k.block i (Nat.lt_of_lt_of_le hi h.size) hS).trans (h.block i hi hS)⟩
theorem Turn.alloc {S : Nat → Prop} {a w : World} (h : Turn S a w) (o : Obj) : Turn S a (w.alloc o) :=
  h.trans ⟨rfl, rfl, rfl, by simp, fun k hk _ => Below.heap_alloc _ _ _ hk⟩
theorem Turn.drewN {S : Nat → Prop} {a w : World} (h : Turn S a w) (n : Nat) : Turn S a (w.drewN n) := ⟨h.os, h.tape, h.output, h.size, h.block⟩
theorem Turn.drew {S : Nat → Prop} {a w : World} (h : Turn S a w) : Turn S a w.drew := ⟨h.os, h.tape, h.output, h.size, h.block⟩
theorem Turn.grown {S : Nat → Prop} {a w w' : World} {row : Option Nat} (h : Turn S a w) (hg : w.grownBy w' row) (hr : ∀ k, row = some k → S k) : Turn S a w' :=
  h.trans ⟨hg.os, hg.tape, hg.output, hg.size, fun k hk hS => hg.block k hk (fun e => hS (hr k e.symm))⟩
theorem Turn.setCell {S : Nat → Prop} {a w : World} (h : Turn S a w) {p : Addr} (hp : S p.block) (u : Value) : Turn S a (w.setCell p u) :=
  h.trans ⟨rfl, rfl, rfl, by simp [World.setCell], fun k _ hS => Below.heap_setCell _ _ _ _ (fun e => hS (e ▸ hp))⟩
theorem Turn.mono {S S' : Nat → Prop} {a w : World} (h : Turn S a w) (hS : ∀ k, S k → S' k) : Turn S' a w := ⟨h.os, h.tape, h.output, h.size, fun k hk hn => h.block k hk (fun e => hn (hS k e))⟩
theorem Turn.below {S : Nat → Prop} {w w' : World} (h : Turn S w w') {B : Nat} (hB : B ≤ w.heap.size) (hS : ∀ k, S k → B ≤ k) : Below B w w' :=
  ⟨h.os, h.tape, h.output, h.size, fun k hk => h.block k (by omega) (fun e => by have := hS k e; omega)⟩
theorem Turn.cell {S : Nat → Prop} {w w' : World} (h : Turn S w w') {p : Addr} (hp : p.block < w.heap.size) (hS : ¬ S p.block) : w'.cell? p = w.cell? p := World.cell?_of_block (h.block _ hp hS)
theorem Turn.frozen {S : Nat → Prop} {w w' : World} (h : Turn S w w') {p : Addr} (hp : p.block < w.heap.size) (hS : ¬ S p.block) : w'.frozen? p = w.frozen? p := World.frozen?_of_block (h.block _ hp hS)

theorem Turn.ownsMap {H : Type} {P : Program} {k : TypeId} {R : Value → Option (DataW H × List MemPlace)} {b n : Nat} {D : DataW H} {S : Nat → Prop} {w w' : World} (h : Turn S w w') (hm : w.ownsMap P k R b n D) (hS : ¬ S b) : w'.ownsMap P k R b n D := by
  have hlt := hm.lt
  obtain ⟨es, clock, hb, F, hs, hD⟩ := hm
  exact ⟨es, clock, (h.block b hlt hS).trans hb, F, hs, hD⟩

theorem Turn.ownsRow {S : Nat → Prop} {w w' : World} {base : Nat} {e : TypeId} {size n : Nat} {v : Value} {xs : List Value} (h : Turn S w w') (hr : w.ownsRow base e size v n xs) (hS : ∀ g, v.ownBlock = some g → ¬ S g) : w'.ownsRow base e size v n xs := by
  refine ⟨hr.1, ?_⟩
  rcases hr.2 with hn | ⟨g, cap, cur, rfl, hb, hgg, rest⟩
  · exact .inl hn
  · exact .inr ⟨g, cap, cur, rfl, hb, (h.block g (Array.getElem?_eq_some_iff.1 hgg).1 (hS g rfl)).trans hgg, rest⟩

/-- Two rows of different element types lie in different blocks. -/
theorem rows_ne {w : World} {base base' : Nat} {e e' : TypeId} {size size' n n' cap cap' g g' : Nat} {xs xs' : List Value} (h : w.ownsRow base e size (.slice (some ⟨g, 0, none⟩) n cap) n xs)
    (h' : w.ownsRow base' e' size' (.slice (some ⟨g', 0, none⟩) n' cap') n' xs') (he : e ≠ e') : g ≠ g' := by
  rcases h.2 with ⟨h0, _⟩ | ⟨g1, c1, cur1, hv1, _, hg1, _⟩
  · cases h0
  · rcases h'.2 with ⟨h0, _⟩ | ⟨g2, c2, cur2, hv2, _, hg2, _⟩
    · cases h0
    · cases hv1; cases hv2
      intro e1
      subst e1
      rw [hg1] at hg2
      cases hg2
      exact he rfl

theorem row_not_map {H : Type} {w : World} {base : Nat} {e : TypeId} {size n cap g : Nat} {xs : List Value} (h : w.ownsRow base e size (.slice (some ⟨g, 0, none⟩) n cap) n xs)
    {P : Program} {k : TypeId} {R : Value → Option (DataW H × List MemPlace)} {b m : Nat} {D : DataW H} (hm : w.ownsMap P k R b m D) : g ≠ b := by
  rcases h.2 with ⟨h0, _⟩ | ⟨g1, c1, cur1, hv1, _, hg1, _⟩
  · cases h0
  · cases hv1
    obtain ⟨es, clock, hb, _⟩ := hm
    intro e1
    subst e1
    rw [hg1] at hb
    cases hb

end Go.Proofs.Ybulkdwti

/-
  6177C: ping.
-/
import Derived.Test.YbulkdwxcC2
namespace Go.Proofs.Ybulkdwxc
open Go.RowKit Go.Maps Go.Sort

/-- w' IS w BUT FOR THE BLOCKS IN S, AND NEW ONES. -/
structure Turn (S : Nat → Prop) (w w' : World) : Prop where
  os : w'.os = w.os
  tape : w'.tape = w.tape
  output : w'.output = w.output
  size : w.heap.size ≤ w'.heap.size
  block : ∀ k, k < w.heap.size → ¬ S k → w'.heap[k]? = w.heap[k]?

theorem Turn.refl (S : Nat → Prop) (w : World) : Turn S w w := ⟨rfl, rfl, rfl, Nat.le_refl _, fun _ _ _ => rfl⟩
theorem Turn.trans {S : Nat → Prop} {a b c : World} (h : Turn S a b) (k : Turn S b c) : Turn S a c :=
  ⟨k.os.trans h.os, k.tape.trans h.tape, k.output.trans h.output, Nat.le_trans h.size k.size, fun i hi hS => (k.block i (Nat.lt_of_lt_of_le hi h.size) hS).trans (h.block i hi hS)⟩
theorem Turn.of_below {S : Nat → Prop} {w w' : World} (h : Below w.heap.size w w') : Turn S w w' := ⟨h.os, h.tape, h.output, h.size, fun k hk _ => h.block k hk⟩
theorem Turn.more {S : Nat → Prop} {w w' w'' : World} (h : Turn S w w') (k : Below w'.heap.size w' w'') : Turn S w w'' := h.trans (.of_below k)
theorem Turn.alloc {S : Nat → Prop} {a w : World} (h : Turn S a w) (o : Obj) : Turn S a (w.alloc o) :=
  h.trans ⟨rfl, rfl, rfl, by simp, fun k hk _ => Below.heap_alloc _ _ _ hk⟩
theorem Turn.drew {S : Nat → Prop} {a w : World} (h : Turn S a w) : Turn S a w.drew := ⟨h.os, h.tape, h.output, h.size, h.block⟩
theorem Turn.setCell {S : Nat → Prop} {a w : World} (h : Turn S a w) {p : Addr} (hp : S p.block) (u : Value) : Turn S a (w.setCell p u) :=
  h.trans ⟨rfl, rfl, rfl, by simp [World.setCell], fun k _ hS => Below.heap_setCell _ _ _ _ (fun e => hS (e ▸ hp))⟩
theorem Turn.mono {S S' : Nat → Prop} {a w : World} (h : Turn S a w) (hS : ∀ k, S k → S' k) : Turn S' a w := ⟨h.os, h.tape, h.output, h.size, fun k hk hn => h.block k hk (fun e => hn (hS k e))⟩
theorem Turn.below {S : Nat → Prop} {w w' : World} (h : Turn S w w') {B : Nat} (hB : B ≤ w.heap.size) (hS : ∀ k, S k → B ≤ k) : Below B w w' :=
  ⟨h.os, h.tape, h.output, h.size, fun k hk => h.block k (by omega) (fun e => by have := hS k e; omega)⟩
theorem Turn.cell {S : Nat → Prop} {w w' : World} (h : Turn S w w') {p : Addr} (hp : p.block < w.heap.size) (hS : ¬ S p.block) : w'.cell? p = w.cell? p := World.cell?_of_block (h.block _ hp hS)
theorem Turn.frozen {S : Nat → Prop} {w w' : World} (h : Turn S w w') {p : Addr} (hp : p.block < w.heap.size) (hS : ¬ S p.block) : w'.frozen? p = w.frozen? p := World.frozen?_of_block (h.block _ hp hS)
theorem Turn.range {S : Nat → Prop} {w w' : World} (h : Turn S w w') {b o : Nat} {cs : List Value} (hr : w.rangeAt b o cs) (hb : b < w.heap.size) (hS : ¬ S b) : w'.rangeAt b o cs :=
  fun j v hv => (h.cell (p := ⟨b, o + j, none⟩) hb hS).trans (hr j v hv)

/-- The cells of a time. -/
theorem time_cells {w : World} {g o : Nat} {n s : Int} (h : w.rangeAt g o [.int .u64 n, .int .i64 s, .pointer none]) : w.cell? ⟨g, o, none⟩ = some (.int .u64 n) ∧ w.cell? ⟨g, o + 1, none⟩ = some (.int .i64 s) ∧ w.cell? ⟨g, o + 2, none⟩ = some (.pointer none) :=
  ⟨h 0 _ rfl, h 1 _ rfl, h 2 _ rfl⟩

theorem range_app {w : World} {b o : Nat} {xs ys : List Value} : w.rangeAt b o (xs ++ ys) ↔ w.rangeAt b o xs ∧ w.rangeAt b (o + xs.length) ys := by
  constructor
  · intro h
    refine ⟨fun j v hv => h j v ?_, fun j v hv => ?_⟩
    · rw [List.getElem?_append_left (List.getElem?_eq_some_iff.1 hv).1, hv]
    · rw [Nat.add_assoc]
      exact h _ v (by rw [List.getElem?_append_right (by omega), Nat.add_sub_cancel_left, hv])
  · rintro ⟨h1, h2⟩ j v hv
    by_cases hj : j < xs.length
    · rw [List.getElem?_append_left hj] at hv
      exact h1 j v hv
    · rw [List.getElem?_append_right (by omega)] at hv
      have := h2 _ v hv
      rwa [show o + xs.length + (j - xs.length) = o + j by omega] at this

/-- SOME CELLS OF A RANGE ARE PUT. -/
theorem range_put {w : World} {b o : Nat} {xs ys zs ys' : List Value} (h : w.rangeAt b o (xs ++ (ys ++ zs))) (hl : ys'.length = ys.length) (hf : ∀ j, w.frozen? ⟨b, j, none⟩ = false) :
    (w.setCells b (o + xs.length) ys').rangeAt b o (xs ++ (ys' ++ zs)) ∧ w.there b (o + xs.length) ys'.length := by
  obtain ⟨h1, h2⟩ := range_app.1 h
  obtain ⟨h2, h3⟩ := range_app.1 h2
  have ht : w.there b (o + xs.length) ys'.length := fun j hj => ⟨by rw [h2 j _ (List.getElem?_eq_getElem (by omega))]; rfl, hf _⟩
  refine ⟨range_app.2 ⟨?_, range_app.2 ⟨World.rangeAt_setCells_same _ _ _ _ ht, ?_⟩⟩, ht⟩
  · intro j v hv
    have := (List.getElem?_eq_some_iff.1 hv).1
    rw [World.cell?_setCells_out _ _ _ _ _ (fun _ _ => .inl (by show o + j < o + xs.length; omega))]
    exact h1 j v hv
  · intro j v hv
    rw [World.cell?_setCells_out _ _ _ _ _ (fun _ _ => .inr (by show o + xs.length + ys'.length ≤ o + xs.length + ys'.length + j; omega))]
    rw [hl]
    exact h3 j v hv

theorem s104 : (Yba.prog.info? 104).map (·.size) = some 122 := by kernel_rfl
/-- The message of a ping. -/
def msgC (a b c : Int) : Array Value := #[.int .u8 8, .int .u8 0, .int .u8 0, .int .u8 0, .int .u8 0, .int .u8 0, .int .u8 0, .int .u8 0, .int .u8 0, .int .u8 0, .int .u8 0, .int .u8 0, .int .u8 0, .int .u8 0, .int .u8 0, .int .u8 0, .int .u8 0, .int .u64 0, .int .u64 0, .pointer none, .int .u16 0, .int .u8 0, .int .u8 0, .int .u8 0, .int .u8 0, .int .u8 0, .int .u8 0, .int .u8 0, .int .u8 0, .int .u8 0, .int .u8 0, .int .u8 0, .int .u8 0, .int .u8 0, .int .u8 0, .int .u8 0, .int .u8 0, .int .u64 0, .int .u64 0, .pointer none, .int .u16 0, .slice none 0 0, .int .u8 0, .int .u8 0, .int .u8 0, .int .u8 0, .int .u8 0, .int .u8 0, .int .u8 0, .int .u8 0, .int .u8 0, .int .u8 0, .int .u8 0, .int .u8 0, .int .u8 0, .int .u8 0, .int .u8 0, .int .u8 0, .int .u64 a, .int .u64 c, .int .u64 0, .int .u64 b, .int .u16 0, .slice none 0 0, .slice none 0 0, .int .u8 0, .int .u8 0, .int .u8 0, .int .u8 0, .int .u8 0, .int .u8 0, .int .u8 0, .int .u8 0, .int .u8 0, .int .u8 0, .int .u8 0, .int .u8 0, .int .u8 0, .int .u8 0, .int .u8 0, .int .u8 0, .int .u8 0, .int .u8 0, .int .u8 0, .int .u8 0, .int .u8 0, .int .u8 0, .int .u8 0, .int .u8 0, .int .u8 0, .int .u8 0, .int .u8 0, .int .u8 0, .int .u8 0, .int .u8 0, .int .u8 0, .int .u8 0, .bool false, .string ⟨#[]⟩, .slice none 0 0, .slice none 0 0, .slice none 0 0, .int .u8 0, .int .u8 0, .int .u8 0, .int .u8 0, .int .u8 0, .int .u8 0, .int .u8 0, .int .u8 0, .int .u8 0, .int .u8 0, .int .u8 0, .int .u8 0, .int .u8 0, .int .u8 0, .int .u8 0, .int .u8 0, .int .u64 0, .int .u64 0, .pointer none, .int .u16 0]
theorem build104 (a b c : Int) (w : World) : (Instr.build 104 #[(0, .int .u8 8), (5, .int .u64 a), (8, .int .u64 b), (6, .int .u64 c)]).run Yba.prog w = .ok (.agg (msgC a b c)) w := by kernel_rfl

/-- The zero message. -/
def zmsg : Array Value := #[.int .u8 0, .int .u8 0, .int .u8 0, .int .u8 0, .int .u8 0, .int .u8 0, .int .u8 0, .int .u8 0, .int .u8 0, .int .u8 0, .int .u8 0, .int .u8 0, .int .u8 0, .int .u8 0, .int .u8 0, .int .u8 0, .int .u8 0, .int .u64 0, .int .u64 0, .pointer none, .int .u16 0, .int .u8 0, .int .u8 0, .int .u8 0, .int .u8 0, .int .u8 0, .int .u8 0, .int .u8 0, .int .u8 0, .int .u8 0, .int .u8 0, .int .u8 0, .int .u8 0, .int .u8 0, .int .u8 0, .int .u8 0, .int .u8 0, .int .u64 0, .int .u64 0, .pointer none, .int .u16 0, .slice none 0 0, .int .u8 0, .int .u8 0, .int .u8 0, .int .u8 0, .int .u8 0, .int .u8 0, .int .u8 0, .int .u8 0, .int .u8 0, .int .u8 0, .int .u8 0, .int .u8 0, .int .u8 0, .int .u8 0, .int .u8 0, .int .u8 0, .int .u64 0, .int .u64 0, .int .u64 0, .int .u64 0, .int .u16 0, .slice none 0 0, .slice none 0 0, .int .u8 0, .int .u8 0, .int .u8 0, .int .u8 0, .int .u8 0, .int .u8 0, .int .u8 0, .int .u8 0, .int .u8 0, .int .u8 0, .int .u8 0, .int .u8 0, .int .u8 0, .int .u8 0, .int .u8 0, .int .u8 0, .int .u8 0, .int .u8 0, .int .u8 0, .int .u8 0, .int .u8 0, .int .u8 0, .int .u8 0, .int .u8 0, .int .u8 0, .int .u8 0, .int .u8 0, .int .u8 0, .int .u8 0, .int .u8 0, .int .u8 0, .int .u8 0, .bool false, .string ⟨#[]⟩, .slice none 0 0, .slice none 0 0, .slice none 0 0, .int .u8 0, .int .u8 0, .int .u8 0, .int .u8 0, .int .u8 0, .int .u8 0, .int .u8 0, .int .u8 0, .int .u8 0, .int .u8 0, .int .u8 0, .int .u8 0, .int .u8 0, .int .u8 0, .int .u8 0, .int .u8 0, .int .u64 0, .int .u64 0, .pointer none, .int .u16 0]
theorem zero104 (w : World) : (zeroValue 104).run Yba.prog w = .ok (.agg zmsg) w := by kernel_rfl
theorem zmsg_size : zmsg.size = 122 := rfl
theorem zmsg_ne : (zmsg = #[]) = False := by
  rw [eq_iff_iff, iff_false]
  intro h
  have := congrArg Array.size h
  rw [zmsg_size] at this
  cases this
theorem zmsg_put (a b c : Int) : (((zmsg.setIfInBounds 0 (.int .u8 8)).setIfInBounds 58 (.int .u64 a)).setIfInBounds 61 (.int .u64 b)).setIfInBounds 59 (.int .u64 c) = msgC a b c := by kernel_rfl

/-- WHAT A PING LOOKS AT: the link, the digest, the count of calls, the number. -/
structure PB (w : World) (gt gl gc gq : Nat) (L : List Value) (dig cl rq : Int) : Prop where
  link : w.rangeAt gl 0 L
  fz : ∀ j, w.frozen? ⟨gl, j, none⟩ = false
  dg : w.cell? ⟨gt, 24, none⟩ = some (.int .u64 dig)
  cc : w.cell? ⟨gc, 0, none⟩ = some (.int .i64 cl)
  cf : w.frozen? ⟨gc, 0, none⟩ = false
  cq : w.cell? ⟨gq, 0, none⟩ = some (.int .u64 rq)

section
variable {w w' : World} {gt gl gc gq : Nat} {L : List Value} {dig cl rq : Int}
theorem PB.below (h : PB w gt gl gc gq L dig cl rq) (hgl : gl < w.heap.size) (k : Below w.heap.size w w') : PB w' gt gl gc gq L dig cl rq :=
  ⟨rangeAt_below h.link k hgl, fun j => (k.frozen (p := ⟨gl, j, none⟩) hgl).trans (h.fz j), (k.cell (World.block_lt_of_cell? w _ h.dg)).trans h.dg, (k.cell (World.block_lt_of_cell? w _ h.cc)).trans h.cc,
    (k.frozen (World.block_lt_of_cell? w _ h.cc)).trans h.cf, (k.cell (World.block_lt_of_cell? w _ h.cq)).trans h.cq⟩
theorem PB.drew (h : PB w gt gl gc gq L dig cl rq) : PB w.drew gt gl gc gq L dig cl rq := ⟨h.link, h.fz, h.dg, h.cc, h.cf, h.cq⟩
theorem PB.req (h : PB w gt gl gc gq L dig cl rq) (n1 : gl ≠ gc) (n3 : gc ≠ gq) (n5 : gc ≠ gt) (c' : Int) : PB (w.setCell ⟨gc, 0, none⟩ (.int .i64 c')) gt gl gc gq L dig c' rq := by
  refine ⟨fun j v hv => ?_, fun j => by rw [World.frozen?_setCell]; exact h.fz j, ?_, World.cell?_setCell_same _ _ _ h.cc, by rw [World.frozen?_setCell]; exact h.cf, ?_⟩
  · rw [World.cell?_setCell_other _ _ _ _ (by simp)]; exact h.link j v hv
  · rw [World.cell?_setCell_other _ _ _ _ (by simp)]; exact h.dg
  · rw [World.cell?_setCell_other _ _ _ _ (by simp)]; exact h.cq
theorem PB.turn {S : Nat → Prop} (h : PB w gt gl gc gq L dig cl rq) (T : Turn S w w') (hgl : gl < w.heap.size) (s1 : ¬ S gl) (s2 : ¬ S gt) (s3 : ¬ S gc) (s4 : ¬ S gq) : PB w' gt gl gc gq L dig cl rq :=
  ⟨T.range h.link hgl s1, fun j => (T.frozen (p := ⟨gl, j, none⟩) hgl s1).trans (h.fz j), (T.cell (World.block_lt_of_cell? w _ h.dg) s2).trans h.dg, (T.cell (World.block_lt_of_cell? w _ h.cc) s3).trans h.cc,
    (T.frozen (World.block_lt_of_cell? w _ h.cc) s3).trans h.cf, (T.cell (World.block_lt_of_cell? w _ h.cq) s4).trans h.cq⟩
theorem PB.put {xs ys zs : List Value} (h : PB w gt gl gc gq (xs ++ (ys ++ zs)) dig cl rq) (n1 : gl ≠ gc) (n2 : gl ≠ gq) (n4 : gl ≠ gt) (ys' : List Value) (hl : ys'.length = ys.length) {o : Nat} (ho : o = xs.length) :
    PB (w.setCells gl o ys') gt gl gc gq (xs ++ (ys' ++ zs)) dig cl rq := by
  subst ho
  have hp := (range_put h.link hl h.fz).1
  rw [Nat.zero_add] at hp
  refine ⟨hp, fun j => by rw [World.frozen?_setCells]; exact h.fz j, ?_, ?_, by rw [World.frozen?_setCells]; exact h.cf, ?_⟩
  · rw [World.cell?_setCells_out _ _ _ _ _ (fun e _ => absurd e.symm n4)]; exact h.dg
  · rw [World.cell?_setCells_out _ _ _ _ _ (fun e _ => absurd e.symm n1)]; exact h.cc
  · rw [World.cell?_setCells_out _ _ _ _ _ (fun e _ => absurd e.symm n2)]; exact h.cq
end
theorem Turn.setCells {S : Nat → Prop} {a : World} {b : Nat} (hb : S b) : ∀ (vs : List Value) (o : Nat) (w : World), Turn S a w → Turn S a (w.setCells b o vs)
  | [], _, _, h => h
  | v :: r, o, _, h => Turn.setCells hb r (o + 1) _ (h.setCell (p := ⟨b, o, none⟩) hb v)

set_option maxRecDepth 100000 in
set_option maxHeartbeats 1000000 in
theorem ping_any (gt gl gc gq rt : Nat) (k p cn cs sn ss p0 p1 p2 q0 q1 q2 lb nn ns cl rq dig : Int) (hcl : 0 ≤ cl ∧ cl ≤ 65536) (w : World) (H : PB w gt gl gc gq (lnkC k p rt cn cs sn ss p0 p1 p2 q0 q1 q2 lb) dig cl rq)
    (n1 : gl ≠ gc) (n2 : gl ≠ gq) (n3 : gc ≠ gq) (n4 : gl ≠ gt) (n5 : gc ≠ gt) :
    Calls Yba.prog 23 #[.pointer (some ⟨gt, 0, none⟩), .pointer (some ⟨gl, 0, none⟩), .agg #[.int .u64 nn, .int .i64 ns, .pointer none], .func (.func 11) #[] #[.pointer (some ⟨gc, 0, none⟩), .pointer (some ⟨gq, 0, none⟩)]] w
      fun e w' => ∃ gm, e = .returned (.agg #[.slice (some ⟨rt, 0, none⟩) 1 1, .pointer (some ⟨gm, 0, none⟩)]) ∧ w.heap.size ≤ gm ∧ w'.heap[gm]? = some (.cells (msgC rq lb dig) 104) ∧ PB w' gt gl gc gq (lnkC k p rt cn cs nn ns rq nn ns q0 q1 q2 lb) dig (cl + 1) rq ∧ Turn (fun k => k = gl ∨ k = gc) w w' := by
  have hgl : gl < w.heap.size := World.block_lt_of_cell? w _ (H.link 0 _ rfl)
  have hgc : gc < w.heap.size := World.block_lt_of_cell? w _ H.cc
  have hgq : gq < w.heap.size := World.block_lt_of_cell? w _ H.cq
  have hgt : gt < w.heap.size := World.block_lt_of_cell? w _ H.dg
  go_enter Yba.func23, Yba.ntmps23
  go_upto_region 1 with fail
  have bw : Below w.heap.size w ((w.alloc (.cells #[.int .u64 nn, .int .i64 ns, .pointer none] 29)).alloc (.cells #[.slice none 0 0, .pointer none] 86)) := ((Below.refl _ _).alloc (Nat.le_refl _) _).alloc (by simp) _
  have b1 := al_old (w.alloc (.cells #[.int .u64 nn, .int .i64 ns, .pointer none] 29)) (.cells #[.slice none 0 0, .pointer none] 86) _ _ (al_new w (.cells #[.int .u64 nn, .int .i64 ns, .pointer none] 29) _ rfl)
  have b2 := al_new (w.alloc (.cells #[.int .u64 nn, .int .i64 ns, .pointer none] 29)) (.cells #[.slice none 0 0, .pointer none] 86) (w.heap.size + 1) (al_size _ _).symm
  replace H := H.below hgl bw
  generalize hg : w.heap.size = g at *
  generalize (w.alloc (.cells #[.int .u64 nn, .int .i64 ns, .pointer none] 29)).alloc (.cells #[.slice none 0 0, .pointer none] 86) = wa at *
  have L1 : wa.cell? ⟨gl, 20, none⟩ = some (.slice (some ⟨rt, 0, none⟩) 1 1) := H.link 20 _ rfl
  have x0 : wa.cell? ⟨g, 0, none⟩ = some (.int .u64 nn) := (cell_of_row _ _ _ _ _ _ b1).trans rfl
  have x1 : wa.cell? ⟨g, 1, none⟩ = some (.int .i64 ns) := (cell_of_row _ _ _ _ _ _ b1).trans rfl
  have x2 : wa.cell? ⟨g, 2, none⟩ = some (.pointer none) := (cell_of_row _ _ _ _ _ _ b1).trans rfl
  go_cut [] (fun wx => PB wx gt gl gc gq (lnkC k p rt cn cs sn ss rq nn ns q0 q1 q2 lb) dig (cl + 1) rq ∧ Turn (fun k => k = gl ∨ k = gc) wa wx)
  case first =>
    -- [[
    have hcc := H.cc
    have hcf := H.cf
    have hcq := H.cq
    have hfz := H.fz
    have AFT : ∀ wx, wx = wa.drew.setCell ⟨gc, 0, none⟩ (.int .i64 (cl + 1)) → wx.cell? ⟨gl, 20, none⟩ = some (.slice (some ⟨rt, 0, none⟩) 1 1) ∧ (wx.cell? ⟨g, 0, none⟩ = some (.int .u64 nn) ∧ wx.cell? ⟨g, 1, none⟩ = some (.int .i64 ns) ∧ wx.cell? ⟨g, 2, none⟩ = some (.pointer none)) ∧
        (∀ j, wx.frozen? ⟨gl, j, none⟩ = false) ∧ (∀ j v, (lnkC k p rt cn cs sn ss p0 p1 p2 q0 q1 q2 lb)[j]? = some v → wx.cell? ⟨gl, j, none⟩ = some v) ∧ Hid (PB wx gt gl gc gq (lnkC k p rt cn cs sn ss p0 p1 p2 q0 q1 q2 lb) dig (cl + 1) rq ∧ Turn (fun k => k = gl ∨ k = gc) wa wx) := by
      rintro _ rfl
      have H2 := H.drew.req n1 n3 n5 (cl + 1)
      refine ⟨H2.link 20 _ rfl, ⟨?_, ?_, ?_⟩, H2.fz, fun j v hv => by have := H2.link j v hv; rwa [Nat.zero_add] at this, H2, (Turn.refl _ _).drew.setCell (p := ⟨gc, 0, none⟩) (.inr rfl) _⟩
      · rw [World.cell?_setCell_other _ _ _ _ (by simp)]; exact x0
      · rw [World.cell?_setCell_other _ _ _ _ (by simp)]; exact x1
      · rw [World.cell?_setCell_other _ _ _ _ (by simp)]; exact x2
    go_region_with (first
      | (go_at_call 11; refine (req_any gc gq cl rq hcl wa.drew n3 hcc hcf hcq).mono ?_; rintro e w2 ⟨rfl, hw2⟩; (obtain ⟨y0, ⟨y1, y2, y3⟩, y4, y5, HB⟩ := AFT w2 hw2); (have z0 := y5 30 _ rfl); (have z1 := y5 31 _ rfl); (have z2 := y5 32 _ rfl); (have z3 := y5 33 _ rfl); (have z4 := y5 34 _ rfl); clear AFT y5 hw2))
    all_goals go_wp2_with fail
    all_goals go_meet
    all_goals exact ⟨PB.put (xs := (lnkC k p rt cn cs sn ss p0 p1 p2 q0 q1 q2 lb).take 30) (ys := [.int .u64 p0, .int .u64 p1, .int .i64 p2, .pointer none, .slice (some ⟨rt, 0, none⟩) 1 1]) (zs := (lnkC k p rt cn cs sn ss p0 p1 p2 q0 q1 q2 lb).drop 35) HB.out.1 n1 n2 n4 [.int .u64 rq, .int .u64 nn, .int .i64 ns, .pointer none, .slice (some ⟨rt, 0, none⟩) 1 1] rfl (o := 30) rfl,
      Turn.setCells (b := gl) (.inl rfl) [.int .u64 rq, .int .u64 nn, .int .i64 ns, .pointer none, .slice (some ⟨rt, 0, none⟩) 1 1] 30 _ HB.out.2⟩
    -- ]]
  case rest =>
    obtain ⟨H2, T2⟩ := hcut
    have hgw : g + 1 < wa.heap.size := (Array.getElem?_eq_some_iff.1 b2).1
    have c1 : wc.heap[g]? = some (.cells #[.int .u64 nn, .int .i64 ns, .pointer none] 29) := (T2.block g (by omega) (by omega)).trans b1
    have c2 : wc.heap[g + 1]? = some (.cells #[.slice none 0 0, .pointer none] 86) := (T2.block (g + 1) hgw (by omega)).trans b2
    have x0 : wc.cell? ⟨g, 0, none⟩ = some (.int .u64 nn) := (cell_of_row _ _ _ _ _ _ c1).trans rfl
    have x1 : wc.cell? ⟨g, 1, none⟩ = some (.int .i64 ns) := (cell_of_row _ _ _ _ _ _ c1).trans rfl
    have x2 : wc.cell? ⟨g, 2, none⟩ = some (.pointer none) := (cell_of_row _ _ _ _ _ _ c1).trans rfl
    have z0 : wc.cell? ⟨gl, 27, none⟩ = some (.int .u64 sn) := H2.link 27 _ rfl
    have z1 : wc.cell? ⟨gl, 28, none⟩ = some (.int .i64 ss) := H2.link 28 _ rfl
    have z2 : wc.cell? ⟨gl, 29, none⟩ = some (.pointer none) := H2.link 29 _ rfl
    have fz := H2.fz
    have H3 : PB (((wc.setCell ⟨gl, 27, none⟩ (.int .u64 nn)).setCell ⟨gl, 28, none⟩ (.int .i64 ns)).setCell ⟨gl, 29, none⟩ (.pointer none)) gt gl gc gq (lnkC k p rt cn cs nn ns rq nn ns q0 q1 q2 lb) dig (cl + 1) rq :=
      PB.put (xs := (lnkC k p rt cn cs sn ss rq nn ns q0 q1 q2 lb).take 27) (ys := [.int .u64 sn, .int .i64 ss, .pointer none]) (zs := (lnkC k p rt cn cs sn ss rq nn ns q0 q1 q2 lb).drop 30) H2 n1 n2 n4 [.int .u64 nn, .int .i64 ns, .pointer none] rfl (o := 27) rfl
    have T3 : Turn (fun k => k = gl ∨ k = gc) wa (((wc.setCell ⟨gl, 27, none⟩ (.int .u64 nn)).setCell ⟨gl, 28, none⟩ (.int .i64 ns)).setCell ⟨gl, 29, none⟩ (.pointer none)) :=
      Turn.setCells (b := gl) (.inl rfl) [.int .u64 nn, .int .i64 ns, .pointer none] 27 _ T2
    clear L1 H H2
    go_upto_region 3 with fail
    clear x0 x1 x2 z0 z1 z2 fz c1 c2
    generalize (((wc.setCell ⟨gl, 27, none⟩ (.int .u64 nn)).setCell ⟨gl, 28, none⟩ (.int .i64 ns)).setCell ⟨gl, 29, none⟩ (.pointer none)) = wd at *
    have c2 : wd.heap[g + 1]? = some (.cells #[.slice none 0 0, .pointer none] 86) := (T3.block (g + 1) hgw (by omega)).trans b2
    have y0 : wd.cell? ⟨gl, 20, none⟩ = some (.slice (some ⟨rt, 0, none⟩) 1 1) := H3.link 20 _ rfl
    have y1 : wd.cell? ⟨gl, 30, none⟩ = some (.int .u64 rq) := H3.link 30 _ rfl
    have y2 : wd.cell? ⟨gl, 40, none⟩ = some (.int .u64 lb) := H3.link 40 _ rfl
    have y3 := H3.dg
    have r0 : wd.cell? ⟨g + 1, 0, none⟩ = some (.slice none 0 0) := (cell_of_row _ _ _ _ _ _ c2).trans rfl
    have r1 : wd.cell? ⟨g + 1, 1, none⟩ = some (.pointer none) := (cell_of_row _ _ _ _ _ _ c2).trans rfl
    have rf : ∀ j, wd.frozen? ⟨g + 1, j, none⟩ = false := fun j => frozen_of_row _ _ _ _ _ c2
    have hB := zero104
    have hB1 := zmsg_size
    have hB2 := zmsg_ne
    have hB3 := zmsg_put rq lb dig
    have hwd : g + 1 < wd.heap.size := (Array.getElem?_eq_some_iff.1 c2).1
    have bA : Below wd.heap.size wd (wd.alloc (.cells (msgC rq lb dig) 104)) := (Below.refl _ _).alloc (Nat.le_refl _) _
    have y0a := (bA.cell (p := ⟨gl, 20, none⟩) (World.block_lt_of_cell? wd _ y0)).trans y0
    have r0a := (bA.cell (p := ⟨g + 1, 0, none⟩) hwd).trans r0
    have r1a := (bA.cell (p := ⟨g + 1, 1, none⟩) hwd).trans r1
    have rfa : ∀ j, (wd.alloc (.cells (msgC rq lb dig) 104)).frozen? ⟨g + 1, j, none⟩ = false := fun j => (bA.frozen (p := ⟨g + 1, j, none⟩) hwd).trans (rf j)
    clear T2 b1 b2 wc
    have FIN : ∀ wx, wx = (((wd.setCell ⟨g + 1, 0, none⟩ (.slice (some ⟨rt, 0, none⟩) 1 1)).setCell ⟨g + 1, 1, none⟩ (.pointer (some ⟨wd.heap.size, 0, none⟩))).alloc (.cells (msgC rq lb dig) 104)).drew →
        wx.heap[wd.heap.size]? = some (.cells (msgC rq lb dig) 104) ∧ PB wx gt gl gc gq (lnkC k p rt cn cs nn ns rq nn ns q0 q1 q2 lb) dig (cl + 1) rq ∧ Turn (fun k => k = gl ∨ k = gc) w wx ∧
          wx.cell? ⟨g + 1, 0, none⟩ = some (.slice (some ⟨rt, 0, none⟩) 1 1) ∧ wx.cell? ⟨g + 1, 1, none⟩ = some (.pointer (some ⟨wd.heap.size, 0, none⟩)) := by
      rintro _ rfl
      have hsz : ((wd.setCell ⟨g + 1, 0, none⟩ (.slice (some ⟨rt, 0, none⟩) 1 1)).setCell ⟨g + 1, 1, none⟩ (.pointer (some ⟨wd.heap.size, 0, none⟩))).heap.size = wd.heap.size := by simp [World.setCell]
      have T4 : Turn (fun k => k = g + 1) wd (((wd.setCell ⟨g + 1, 0, none⟩ (.slice (some ⟨rt, 0, none⟩) 1 1)).setCell ⟨g + 1, 1, none⟩ (.pointer (some ⟨wd.heap.size, 0, none⟩))).alloc (.cells (msgC rq lb dig) 104)).drew :=
        ((((Turn.refl (fun k => k = g + 1) wd).setCell (p := ⟨g + 1, 0, none⟩) rfl _).setCell (p := ⟨g + 1, 1, none⟩) rfl _).alloc _).drew
      have hs3 := T3.size
      refine ⟨al_new _ _ _ hsz.symm, H3.turn T4 (by omega) (by omega) (by omega) (by omega) (by omega), ⟨?_, ?_, ?_, ?_, ?_⟩, ?_, ?_⟩
      · exact T4.os.trans (T3.os.trans bw.os)
      · exact T4.tape.trans (T3.tape.trans bw.tape)
      · exact T4.output.trans (T3.output.trans bw.output)
      · have := T4.size; omega
      · intro k hk hS
        exact (T4.block k (by omega) (by omega)).trans ((T3.block k (by omega) hS).trans (bw.block k (by omega)))
      · show (((wd.setCell ⟨g + 1, 0, none⟩ (.slice (some ⟨rt, 0, none⟩) 1 1)).setCell ⟨g + 1, 1, none⟩ (.pointer (some ⟨wd.heap.size, 0, none⟩))).alloc (.cells (msgC rq lb dig) 104)).cell? _ = _
        rw [World.cell?_alloc_past _ _ _ (by rw [hsz]; exact hwd), World.cell?_setCell_other _ _ _ _ (by simp), World.cell?_setCell_same _ _ _ r0]
      · show (((wd.setCell ⟨g + 1, 0, none⟩ (.slice (some ⟨rt, 0, none⟩) 1 1)).setCell ⟨g + 1, 1, none⟩ (.pointer (some ⟨wd.heap.size, 0, none⟩))).alloc (.cells (msgC rq lb dig) 104)).cell? _ = _
        rw [World.cell?_alloc_past _ _ _ (by rw [hsz]; exact hwd), World.cell?_setCell_same _ _ _ (by rw [World.cell?_setCell_other _ _ _ _ (by simp), r1])]
    have HFIN : Hid _ := FIN
    clear FIN
    go_region
    obtain ⟨f1, f2, f3, f4, f5⟩ := HFIN.out _ rfl
    have hge : w.heap.size ≤ wd.heap.size := by omega
    generalize (((wd.setCell ⟨g + 1, 0, none⟩ (.slice (some ⟨rt, 0, none⟩) 1 1)).setCell ⟨g + 1, 1, none⟩ (.pointer (some ⟨wd.heap.size, 0, none⟩))).alloc (.cells (msgC rq lb dig) 104)).drew = we at *
    go_wp2_with fail
    exact bodyPost_ret (v := .agg #[.slice (some ⟨rt, 0, none⟩) 1 1, .pointer (some ⟨wd.heap.size, 0, none⟩)]) (by simp [results, Yba.results23, go_sem, f4, f5]) rfl ⟨wd.heap.size, rfl, hge, f1, f2, f3⟩
end Go.Proofs.Ybulkdwxc

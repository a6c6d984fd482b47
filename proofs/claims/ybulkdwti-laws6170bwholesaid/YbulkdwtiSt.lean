import Derived.Test.YbulkdwtiNamed
namespace Go.Proofs.Ybulkdwti
open Go.RowKit Go.Maps

/-- Block b is a map whose keys are K, the element at the t-th of them vs[t]. -/
def MapIs (w : World) (b : Nat) (K : List Int) (vs : List Value) (z : Value) : Prop :=
  ∃ D, w.ownsMap Yba.prog 3 selfElem b K.length D ∧ Maps.size D = K.length ∧ (∀ x, Maps.has D (.int .i64 x) = decide (x ∈ K)) ∧ ∀ t, t < K.length → D.atKey (.int .i64 (K.getD t 0)) (.held z) = .held (vs.getD t undef)

theorem MapIs.turn {S : Nat → Prop} {w w' : World} {b : Nat} {K : List Int} {vs : List Value} {z : Value} (h : MapIs w b K vs z) (T : Turn S w w') (hS : ¬ S b) : MapIs w' b K vs z := by
  obtain ⟨D, h1, h2, h3, h4⟩ := h
  exact ⟨D, T.ownsMap h1 hS, h2, h3, h4⟩

theorem MapIs.lt {w : World} {b : Nat} {K : List Int} {vs : List Value} {z : Value} (h : MapIs w b K vs z) : b < w.heap.size := by
  obtain ⟨D, h1, _⟩ := h
  exact h1.lt

theorem MapIs.made (w : World) (z : Value) : MapIs (w.alloc (.map #[] 0)) w.heap.size [] [] z :=
  ⟨.map [], World.ownsMap_made _ _ _ _, rfl, fun x => by simp [has_eq], fun t ht => by simp at ht⟩

theorem lit_ne {x y : Int} (h : x ≠ y) : Lit.int .i64 x ≠ Lit.int .i64 y := fun e => h (by cases e; rfl)

theorem mapIs_put {w' : World} {b : Nat} {K : List Int} {vs : List Value} {z v : Value} {x : Int} {D : DataW Value} (hv : vs.length = K.length) (hx : x ∉ K)
    (h1 : ∃ w : World, w.ownsMap Yba.prog 3 selfElem b K.length D) (h2 : Maps.size D = K.length) (h3 : ∀ x, Maps.has D (.int .i64 x) = decide (x ∈ K))
    (h4 : ∀ t, t < K.length → D.atKey (.int .i64 (K.getD t 0)) (.held z) = .held (vs.getD t undef)) (hp : w'.ownsMap Yba.prog 3 selfElem b (K.length + 1) (D.put (.int .i64 x) (.held v))) :
    MapIs w' b (K ++ [x]) (vs ++ [v]) z := by
  obtain ⟨w, h1⟩ := h1
  have ht := h1.tidy keyed3
  have hn : Maps.has D (.int .i64 x) = false := by rw [h3]; simp [hx]
  refine ⟨D.put (.int .i64 x) (.held v), by simpa using hp, ?_, ?_, ?_⟩
  · rw [size_put ht, hn, h2]; simp
  · intro y
    by_cases hy : y = x
    · subst hy
      rw [has_put_same ht.isMap (show WideAt.IsKeyLit (.int .i64 y) from trivial)]; simp
    · rw [has_put_other (lit_ne hy), h3]; simp [hy]
  · intro t htl
    simp at htl
    by_cases e : t = K.length
    · subst e
      rw [show (K ++ [x]).getD K.length 0 = x by simp, show (vs ++ [v]).getD K.length undef = v by rw [← hv]; simp]
      exact atKey_put_same ht.isMap (show WideAt.IsKeyLit (.int .i64 x) from trivial) _ _
    · have hlt : t < K.length := by omega
      rw [show (K ++ [x]).getD t 0 = K.getD t 0 by simp [List.getElem?_append_left hlt], show (vs ++ [v]).getD t undef = vs.getD t undef by simp [List.getElem?_append_left (show t < vs.length by omega)]]
      have hne : K.getD t 0 ≠ x := fun e => hx (by rw [← e]; simp [List.getElem?_eq_getElem hlt])
      rw [atKey_put_other (lit_ne hne), h4 t hlt]

/-- 'm[x] = v' AT THE OPERATION, the key new. -/
theorem wpList_put_new (w : World) {ops : Array Oper} {rest : List Oper} {o : Oper} {a : Act} {Q : Exit → Act → World → Prop} (hg : o.guard = none) (m x v : Operand) (t e : TypeId) (hop : o.op = Op.mapUpdate t m x v)
    (ht : Yba.prog.underlying t = some (.map 3 e)) (b : Nat) (K : List Int) (vs : List Value) (z : Value) (hm : a.eval m = .map (some b)) (hown : MapIs w b K vs z) (hv : vs.length = K.length) (hK : K.length ≤ 65536)
    (y : Int) (val : Value) (hx : a.eval x = .int .i64 y) (hval : a.eval v = val) (wy : (Lit.int .i64 y).wf = true) (hy : y ∉ K)
    (h : ∀ w', MapIs w' b (K ++ [y]) (vs ++ [val]) z → w.grownBy w' (some b) → wpList Yba.prog ops Q rest (a.put o.dst undef) w') :
    wpList Yba.prog ops Q (o :: rest) a w := by
  obtain ⟨D, h1, h2, h3, h4⟩ := hown
  refine wpList_mapUpdate_own w hg m x v t hop 3 e keyed3 ht selfElem b K.length D hm h1 (by unfold maxLen; omega) _ _ _ hx hval (keyOf_int_mk Yba.underlying3 wy) (.held val) [] rfl ?_
  intro w' hp hgr
  exact h w' (mapIs_put hv hy ⟨w, h1⟩ h2 h3 h4 hp) hgr

/-- 'v, ok := m[x]', the key not there. -/
theorem MapIs.look_no {w : World} {b : Nat} {K : List Int} {vs : List Value} {z : Value} {t e : TypeId} (h : MapIs w b K vs z) (ht : Yba.prog.underlying t = some (.map 3 e)) (hz : (zeroValue e).run Yba.prog w = .ok z w) {x : Int} (wx : (Lit.int .i64 x).wf = true) (hx : x ∉ K) :
    (Instr.lookup t (.map (some b)) (.int .i64 x) true).run Yba.prog w = .ok (.tuple #[z, .bool false]) w := by
  obtain ⟨D, h1, h2, h3, h4⟩ := h
  have hn : Maps.has D (.int .i64 x) = false := by rw [h3]; simp [hx]
  have := lookup_self_ok h1 keyed3 ht hz (keyOf_int_mk Yba.underlying3 wx) (atKey_of_not_has hn _)
  rwa [hn] at this

/-- .. and there. -/
theorem MapIs.look_yes {w : World} {b : Nat} {K : List Int} {vs : List Value} {z : Value} {t e : TypeId} (h : MapIs w b K vs z) (ht : Yba.prog.underlying t = some (.map 3 e)) (hz : (zeroValue e).run Yba.prog w = .ok z w) {i : Nat} (hi : i < K.length) (wx : (Lit.int .i64 (K.getD i 0)).wf = true) :
    (Instr.lookup t (.map (some b)) (.int .i64 (K.getD i 0)) true).run Yba.prog w = .ok (.tuple #[vs.getD i undef, .bool true]) w := by
  obtain ⟨D, h1, h2, h3, h4⟩ := h
  have hn : Maps.has D (.int .i64 (K.getD i 0)) = true := by rw [h3]; simp [List.getElem?_eq_getElem hi]
  have := lookup_self_ok h1 keyed3 ht hz (keyOf_int_mk Yba.underlying3 wx) (h4 i hi)
  rwa [hn] at this

theorem MapIs.look {w : World} {b : Nat} {K : List Int} {vs : List Value} {z : Value} {t e : TypeId} (h : MapIs w b K vs z) (ht : Yba.prog.underlying t = some (.map 3 e)) (hz : (zeroValue e).run Yba.prog w = .ok z w) {i : Nat} (hi : i < K.length) (wx : (Lit.int .i64 (K.getD i 0)).wf = true) :
    (Instr.lookup t (.map (some b)) (.int .i64 (K.getD i 0)) false).run Yba.prog w = .ok (vs.getD i undef) w := by
  obtain ⟨D, h1, h2, h3, h4⟩ := h
  exact lookup_self h1 keyed3 ht hz (keyOf_int_mk Yba.underlying3 wx) (h4 i hi)

theorem MapIs.len {w : World} {b : Nat} {K : List Int} {vs : List Value} {z : Value} {t e : TypeId} (h : MapIs w b K vs z) (ht : Yba.prog.underlying t = some (.map 3 e)) (ty : TypeId) :
    (Builtin.len_ #[t] ty #[.map (some b)]).run Yba.prog w = .ok (.int .i64 K.length) w := by
  obtain ⟨D, h1, h2, h3, h4⟩ := h
  rw [h1.len ht ty, h2]

/-- The three cells of a record that was made in round j. -/
def inst3 (j : Nat) : List Value := [.int .i64 ((j : Int) + 1), .string ⟨#[]⟩, .int .i64 j]
def ptr (p : Nat) : Value := .pointer (some ⟨p, 0, none⟩)
def nums (n : Nat) : List Value := (List.range n).map (fun t : Nat => Value.int .i64 t)

/-- WHAT THE LAW HAS BUILT: the keys, the pointers, the values, the two maps. -/
structure St (w : World) (B Bi Bm g1 g2 g3 c1 c2 c3 : Nat) (K : List Int) (J Ps : List Nat) : Prop where
  hJ : J.length = K.length
  hP : Ps.length = K.length
  wf : ∀ x ∈ K, (Lit.int .i64 x).wf = true
  ne : Bi ≠ Bm
  bi : B ≤ Bi
  bm : B ≤ Bm
  idx : MapIs w Bi K (nums K.length) (.int .i64 0)
  inst : MapIs w Bm K (Ps.map ptr) (.pointer none)
  r1 : w.ownsRow B 3 1 (.slice (some ⟨g1, 0, none⟩) K.length c1) K.length (K.map (.int .i64))
  r2 : w.ownsRow B 37 1 (.slice (some ⟨g2, 0, none⟩) K.length c2) K.length (Ps.map ptr)
  r3 : w.ownsRow B 39 3 (.slice (some ⟨g3, 0, none⟩) K.length c3) K.length (J.flatMap inst3)
  own : ∀ t, t < K.length → w.heap[Ps.getD t 0]? = some (.cells (inst3 (J.getD t 0)).toArray 39 (0, 0)) ∧ B ≤ Ps.getD t 0 ∧ Ps.getD t 0 ≠ g3

theorem row_ge {w : World} {base : Nat} {e : TypeId} {size n cap g : Nat} {xs : List Value} (h : w.ownsRow base e size (.slice (some ⟨g, 0, none⟩) n cap) n xs) : base ≤ g ∧ g < w.heap.size := h.lt g rfl

theorem row_block {w : World} {base : Nat} {e : TypeId} {size n cap g : Nat} {xs : List Value} (h : w.ownsRow base e size (.slice (some ⟨g, 0, none⟩) n cap) n xs) : ∃ cur, w.heap[g]? = some (.cells cur e (0, 0)) := by
  rcases h.2 with ⟨h0, _⟩ | ⟨g1, c1, cur1, hv1, _, hg1, _⟩
  · cases h0
  · cases hv1; exact ⟨cur1, hg1⟩

theorem map_block {w : World} {b : Nat} {K : List Int} {vs : List Value} {z : Value} (h : MapIs w b K vs z) : ∃ es cl, w.heap[b]? = some (.map es cl) := by
  obtain ⟨D, ⟨es, cl, h1, _⟩, _⟩ := h
  exact ⟨es, cl, h1⟩

/-- All blocks of 'St' differ from one another. -/
theorem St.apart {w : World} {B Bi Bm g1 g2 g3 c1 c2 c3 : Nat} {K : List Int} {J Ps : List Nat} (h : St w B Bi Bm g1 g2 g3 c1 c2 c3 K J Ps) :
    g1 ≠ g2 ∧ g1 ≠ g3 ∧ g2 ≠ g3 ∧ g1 ≠ Bi ∧ g2 ≠ Bi ∧ g3 ≠ Bi ∧ g1 ≠ Bm ∧ g2 ≠ Bm ∧ g3 ≠ Bm ∧
      ∀ t, t < K.length → Ps.getD t 0 ≠ g1 ∧ Ps.getD t 0 ≠ g2 ∧ Ps.getD t 0 ≠ g3 ∧ Ps.getD t 0 ≠ Bi ∧ Ps.getD t 0 ≠ Bm := by
  obtain ⟨u1, e1⟩ := row_block h.r1
  obtain ⟨u2, e2⟩ := row_block h.r2
  obtain ⟨u3, e3⟩ := row_block h.r3
  obtain ⟨m1, k1, e4⟩ := map_block h.idx
  obtain ⟨m2, k2, e5⟩ := map_block h.inst
  refine ⟨?_, ?_, ?_, ?_, ?_, ?_, ?_, ?_, ?_, fun t ht => ⟨?_, ?_, (h.own t ht).2.2, ?_, ?_⟩⟩
  all_goals (intro e; first | (rw [e] at e1; simp [e1] at e2; done) | (rw [e] at e1; simp [e1] at e3; done) | (rw [e] at e2; simp [e2] at e3; done) | (rw [e] at e1; simp [e1] at e4; done) | (rw [e] at e2; simp [e2] at e4; done) | (rw [e] at e3; simp [e3] at e4; done) | (rw [e] at e1; simp [e1] at e5; done) | (rw [e] at e2; simp [e2] at e5; done) | (rw [e] at e3; simp [e3] at e5; done) | (have h0 := (h.own t ht).1; rw [e] at h0; first | (simp [h0] at e1; done) | (simp [h0] at e2; done) | (simp [h0] at e4; done) | (simp [h0] at e5; done)))

section
variable {w : World} {B Bi Bm g1 g2 g3 c1 c2 c3 : Nat} {K : List Int} {J Ps : List Nat}
theorem St.r1_at {w2 : World} (h : St w B Bi Bm g1 g2 g3 c1 c2 c3 K J Ps) {O : Obj} (hg2 : (w.alloc O).grownBy w2 (some Bi)) (O' : Obj) :
    (w2.alloc O').ownsRow B 3 1 (.slice (some ⟨g1, 0, none⟩) K.length c1) K.length (K.map (.int .i64)) := by
  obtain ⟨a12, a13, a23, a1i, a2i, a3i, a1m, a2m, a3m, ap⟩ := h.apart
  have T2 : Turn (fun k => k = Bi) w (w2.alloc O') := (((Turn.refl _ _).alloc _).grown hg2 (by intro k hk; cases hk; rfl)).alloc _
  exact T2.ownsRow h.r1 (by intro g hg; (obtain rfl : g1 = g := by simpa [Value.ownBlock] using hg); exact a1i)
theorem St.r2_at {w2 w4 : World} (h : St w B Bi Bm g1 g2 g3 c1 c2 c3 K J Ps) {O O1 : Obj} (hg2 : (w.alloc O).grownBy w2 (some Bi)) (hg4 : (w2.alloc O1).grownBy w4 (some g1)) (O' : Obj) :
    (w4.alloc O').ownsRow B 37 1 (.slice (some ⟨g2, 0, none⟩) K.length c2) K.length (Ps.map ptr) := by
  obtain ⟨a12, a13, a23, a1i, a2i, a3i, a1m, a2m, a3m, ap⟩ := h.apart
  have T2 : Turn (fun k => k = Bi ∨ k = g1) w (w4.alloc O') := (((((Turn.refl _ _).alloc _).grown hg2 (by intro k hk; cases hk; exact .inl rfl)).alloc _).grown hg4 (by intro k hk; cases hk; exact .inr rfl)).alloc _
  exact T2.ownsRow h.r2 (by intro g hg; (obtain rfl : g2 = g := by simpa [Value.ownBlock] using hg); rintro (e | e) <;> omega)
theorem St.r3_at {w2 w4 w6 : World} (h : St w B Bi Bm g1 g2 g3 c1 c2 c3 K J Ps) {O O1 O2 : Obj} (hg2 : (w.alloc O).grownBy w2 (some Bi)) (hg4 : (w2.alloc O1).grownBy w4 (some g1)) (hg6 : (w4.alloc O2).grownBy w6 (some g2)) (O' : Obj) :
    (w6.alloc O').ownsRow B 39 3 (.slice (some ⟨g3, 0, none⟩) K.length c3) K.length (J.flatMap inst3) := by
  obtain ⟨a12, a13, a23, a1i, a2i, a3i, a1m, a2m, a3m, ap⟩ := h.apart
  have T2 : Turn (fun k => k = Bi ∨ k = g1 ∨ k = g2) w (w6.alloc O') := (((((((Turn.refl _ _).alloc _).grown hg2 (by intro k hk; cases hk; exact .inl rfl)).alloc _).grown hg4 (by intro k hk; cases hk; exact .inr (.inl rfl))).alloc _).grown hg6 (by intro k hk; cases hk; exact .inr (.inr rfl))).alloc _
  exact T2.ownsRow h.r3 (by intro g hg; (obtain rfl : g3 = g := by simpa [Value.ownBlock] using hg); rintro (e | e | e) <;> omega)
theorem St.inst_at {w2 w4 w6 w8 : World} (h : St w B Bi Bm g1 g2 g3 c1 c2 c3 K J Ps) {O O1 O2 O3 : Obj} (hg2 : (w.alloc O).grownBy w2 (some Bi)) (hg4 : (w2.alloc O1).grownBy w4 (some g1)) (hg6 : (w4.alloc O2).grownBy w6 (some g2)) (hg8 : (w6.alloc O3).grownBy w8 (some g3)) :
    MapIs w8 Bm K (Ps.map ptr) (.pointer none) := by
  obtain ⟨a12, a13, a23, a1i, a2i, a3i, a1m, a2m, a3m, ap⟩ := h.apart
  have := h.ne
  have T2 : Turn (fun k => k = Bi ∨ k = g1 ∨ k = g2 ∨ k = g3) w w8 := ((((((((Turn.refl _ _).alloc _).grown hg2 (by intro k hk; cases hk; exact .inl rfl)).alloc _).grown hg4 (by intro k hk; cases hk; exact .inr (.inl rfl))).alloc _).grown hg6 (by intro k hk; cases hk; exact .inr (.inr (.inl rfl)))).alloc _).grown hg8 (by intro k hk; cases hk; exact .inr (.inr (.inr rfl)))
  exact h.inst.turn T2 (by rintro (e | e | e | e) <;> omega)
/-- The record that was made in this round, still there two appends later. -/
theorem St.new_at {w2 w4 w6 : World} (h : St w B Bi Bm g1 g2 g3 c1 c2 c3 K J Ps) {cs : Array Value} {t : TypeId} {O1 O2 : Obj} (hg2 : (w.alloc (.cells cs t)).grownBy w2 (some Bi)) (hg4 : (w2.alloc O1).grownBy w4 (some g1)) (hg6 : (w4.alloc O2).grownBy w6 (some g2)) (i : Nat) :
    w6.cell? ⟨w.heap.size, i, none⟩ = cs[i]? := by
  have b1 := row_ge h.r1
  have b2 := row_ge h.r2
  have bi := h.idx.lt
  have T2 : Turn (fun k => k = Bi ∨ k = g1 ∨ k = g2) (w.alloc (.cells cs t)) w6 := (((((Turn.refl _ _).grown hg2 (by intro k hk; cases hk; exact .inl rfl)).alloc _).grown hg4 (by intro k hk; cases hk; exact .inr (.inl rfl))).alloc _).grown hg6 (by intro k hk; cases hk; exact .inr (.inr rfl))
  rw [T2.cell (by simp) (by rintro (e | e | e) <;> simp at e <;> omega)]
  exact cell_of_row _ _ _ _ _ _ (heap_alloc_new w _)
end

theorem getD_snoc_lt {α : Type} (l : List α) (x d : α) {t : Nat} (h : t < l.length) : (l ++ [x]).getD t d = l.getD t d := by simp [List.getElem?_append_left h]
theorem getD_snoc_eq {α : Type} (l : List α) (x d : α) {t : Nat} (h : t = l.length) : (l ++ [x]).getD t d = x := by subst h; simp

theorem nums_succ (n : Nat) : nums (n + 1) = nums n ++ [.int .i64 n] := by simp [nums, List.range_succ]

/-- ONE ROUND, THE KEY NEW. -/
theorem St.step {B Bi Bm g1 g2 g3 c1 c2 c3 g1' g2' g3' c1' c2' c3' k : Nat} {K : List Int} {J Ps : List Nat} {x : Int} {w w2 w4 w6 w8 w9 : World}
    (h : St w B Bi Bm g1 g2 g3 c1 c2 c3 K J Ps) (hB : B ≤ w.heap.size) (hx : x ∉ K) (wx : (Lit.int .i64 x).wf = true)
    (h2 : MapIs w2 Bi (K ++ [x]) (nums (K.length + 1)) (.int .i64 0)) (hg2 : (w.alloc (.cells (inst3 k).toArray 39)).grownBy w2 (some Bi))
    (h4 : w4.ownsRow B 3 1 (.slice (some ⟨g1', 0, none⟩) (K.length + 1) c1') (K.length + 1) (K.map (.int .i64) ++ [.int .i64 x])) (hg4 : (w2.alloc (.cells #[.int .i64 x] 3)).grownBy w4 (some g1)) (hl4 : g1 = g1' ∨ g1' = w2.heap.size + 1)
    (h6 : w6.ownsRow B 37 1 (.slice (some ⟨g2', 0, none⟩) (K.length + 1) c2') (K.length + 1) (Ps.map ptr ++ [ptr w.heap.size])) (hg6 : (w4.alloc (.cells #[ptr w.heap.size] 37)).grownBy w6 (some g2)) (hl6 : g2 = g2' ∨ g2' = w4.heap.size + 1)
    (h8 : w8.ownsRow B 39 3 (.slice (some ⟨g3', 0, none⟩) (K.length + 1) c3') (K.length + 1) (J.flatMap inst3 ++ inst3 k)) (hg8 : (w6.alloc (.cells (inst3 k).toArray 39)).grownBy w8 (some g3)) (hl8 : g3 = g3' ∨ g3' = w6.heap.size + 1)
    (h9 : MapIs w9 Bm (K ++ [x]) (Ps.map ptr ++ [ptr w.heap.size]) (.pointer none)) (hg9 : w8.grownBy w9 (some Bm)) :
    St w9 B Bi Bm g1' g2' g3' c1' c2' c3' (K ++ [x]) (J ++ [k]) (Ps ++ [w.heap.size]) ∧ Below B w w9 := by
  obtain ⟨a12, a13, a23, a1i, a2i, a3i, a1m, a2m, a3m, ap⟩ := h.apart
  have b1 := row_ge h.r1
  have b2 := row_ge h.r2
  have b3 := row_ge h.r3
  have bi := h.idx.lt
  have bm := h.inst.lt
  have nimb := h.ne
  have T2 : Turn (fun k => k = Bi) w w2 := ((Turn.refl _ _).alloc _).grown hg2 (by intro k hk; cases hk; rfl)
  have T4 : Turn (fun k => k = g1) w2 w4 := ((Turn.refl _ _).alloc _).grown hg4 (by intro k hk; cases hk; rfl)
  have T6 : Turn (fun k => k = g2) w4 w6 := ((Turn.refl _ _).alloc _).grown hg6 (by intro k hk; cases hk; rfl)
  have T8 : Turn (fun k => k = g3) w6 w8 := ((Turn.refl _ _).alloc _).grown hg8 (by intro k hk; cases hk; rfl)
  have T9 : Turn (fun k => k = Bm) w8 w9 := (Turn.refl _ _).grown hg9 (by intro k hk; cases hk; rfl)
  have z2 : w.heap.size + 1 ≤ w2.heap.size := by have := hg2.size; simpa using this
  have z4 := T4.size
  have z6 := T6.size
  have z8 := T8.size
  have z9 := T9.size
  have TA : Turn (fun k => k = Bi ∨ k = g1 ∨ k = g2 ∨ k = g3 ∨ k = Bm) w w9 :=
    (T2.mono (by intro k hk; simp [hk])).trans ((T4.mono (by intro k hk; simp [hk])).trans ((T6.mono (by intro k hk; simp [hk])).trans ((T8.mono (by intro k hk; simp [hk])).trans (T9.mono (by intro k hk; simp [hk])))))
  have T29 : Turn (fun k => k = g1 ∨ k = g2 ∨ k = g3 ∨ k = Bm) w2 w9 :=
    ((T4.mono (by intro k hk; simp [hk])).trans ((T6.mono (by intro k hk; simp [hk])).trans ((T8.mono (by intro k hk; simp [hk])).trans (T9.mono (by intro k hk; simp [hk])))))
  have T49 : Turn (fun k => k = g2 ∨ k = g3 ∨ k = Bm) w4 w9 := ((T6.mono (by intro k hk; simp [hk])).trans ((T8.mono (by intro k hk; simp [hk])).trans (T9.mono (by intro k hk; simp [hk]))))
  have T69 : Turn (fun k => k = g3 ∨ k = Bm) w6 w9 := ((T8.mono (by intro k hk; simp [hk])).trans (T9.mono (by intro k hk; simp [hk])))
  have bi2 := h2.lt
  refine ⟨⟨by simp [h.hJ], by simp [h.hP], ?_, h.ne, h.bi, h.bm, ?_, ?_, ?_, ?_, ?_, ?_⟩, TA.below hB ?_⟩
  · intro y hy
    rcases List.mem_append.1 hy with hy | hy
    · exact h.wf y hy
    · simp at hy; subst hy; exact wx
  · have := h2.turn T29 (by rintro (e | e | e | e) <;> omega)
    simpa using this
  · simpa using h9
  · have := T49.ownsRow h4 (by intro g hg; (obtain rfl : g1' = g := by simpa [Value.ownBlock] using hg); rintro (e | e | e) <;> rcases hl4 with hl | hl <;> omega)
    simpa using this
  · have := T69.ownsRow h6 (by intro g hg; (obtain rfl : g2' = g := by simpa [Value.ownBlock] using hg); rintro (e | e) <;> rcases hl6 with hl | hl <;> omega)
    simpa using this
  · have := T9.ownsRow h8 (by intro g hg; (obtain rfl : g3' = g := by simpa [Value.ownBlock] using hg); intro e; rcases hl8 with hl | hl <;> omega)
    simpa using this
  · intro t ht
    simp at ht
    by_cases e : t = K.length
    · rw [getD_snoc_eq Ps _ _ (by rw [h.hP, e]), getD_snoc_eq J _ _ (by rw [h.hJ, e])]
      refine ⟨?_, hB, by rcases hl8 with hl | hl <;> omega⟩
      rw [T29.block _ (by omega) (by rintro (e | e | e | e) <;> omega), hg2.block _ (by simp) (by simp; omega)]
      exact heap_alloc_new w _
    · have hlt : t < K.length := by omega
      rw [getD_snoc_lt Ps _ _ (by rw [h.hP]; exact hlt), getD_snoc_lt J _ _ (by rw [h.hJ]; exact hlt)]
      obtain ⟨o1, o2, o3⟩ := h.own t hlt
      obtain ⟨p1, p2, p3, p4, p5⟩ := ap t hlt
      have hpl : Ps.getD t 0 < w.heap.size := (Array.getElem?_eq_some_iff.1 o1).1
      refine ⟨?_, o2, by rcases hl8 with hl | hl <;> omega⟩
      rw [TA.block _ hpl (by rintro (e | e | e | e | e) <;> contradiction)]
      exact o1
  · have := h.bi
    have := h.bm
    rintro k (e | e | e | e | e) <;> omega

end Go.Proofs.Ybulkdwti

import Derived.Test.YbulkdwtiSt
import Derived.LaidEqlPtr
namespace Go.Proofs.Ybulkdwti
open Go.RowKit Go.Maps

/-- A state is carried along while other blocks turn. -/
theorem St.carry {S : Nat → Prop} {w w' : World} {B Bi Bm g1 g2 g3 c1 c2 c3 : Nat} {K : List Int} {J Ps : List Nat} (h : St w B Bi Bm g1 g2 g3 c1 c2 c3 K J Ps) (T : Turn S w w') (hS : ∀ k, k < w.heap.size → ¬ S k) : St w' B Bi Bm g1 g2 g3 c1 c2 c3 K J Ps := by
  have b1 := row_ge h.r1
  have b2 := row_ge h.r2
  have b3 := row_ge h.r3
  exact ⟨h.hJ, h.hP, h.wf, h.ne, h.bi, h.bm, h.idx.turn T (hS _ h.idx.lt), h.inst.turn T (hS _ h.inst.lt),
    T.ownsRow h.r1 (by intro g hg; (obtain rfl : g1 = g := by simpa [Value.ownBlock] using hg); exact hS _ b1.2),
    T.ownsRow h.r2 (by intro g hg; (obtain rfl : g2 = g := by simpa [Value.ownBlock] using hg); exact hS _ b2.2),
    T.ownsRow h.r3 (by intro g hg; (obtain rfl : g3 = g := by simpa [Value.ownBlock] using hg); exact hS _ b3.2),
    fun t ht => ⟨(T.block _ ((Array.getElem?_eq_some_iff.1 (h.own t ht).1).1) (hS _ ((Array.getElem?_eq_some_iff.1 (h.own t ht).1).1))).trans (h.own t ht).1, (h.own t ht).2⟩⟩

/-- WHAT THE LOOPS BEHIND THE CALL READ, the two maps apart. -/
structure Rd (w : World) (g1 g2 g3 c1 c2 c3 B Bi : Nat) (K : List Int) (J Ps : List Nat) : Prop where
  hJ : J.length = K.length
  hP : Ps.length = K.length
  wf : ∀ x ∈ K, (Lit.int .i64 x).wf = true
  idx : MapIs w Bi K (nums K.length) (.int .i64 0)
  r1 : w.ownsRow B 3 1 (.slice (some ⟨g1, 0, none⟩) K.length c1) K.length (K.map (.int .i64))
  r2 : w.ownsRow B 37 1 (.slice (some ⟨g2, 0, none⟩) K.length c2) K.length (Ps.map ptr)
  r3 : w.ownsRow B 39 3 (.slice (some ⟨g3, 0, none⟩) K.length c3) K.length (J.flatMap inst3)
  own : ∀ t, t < K.length → w.heap[Ps.getD t 0]? = some (.cells (inst3 (J.getD t 0)).toArray 39 (0, 0))

theorem St.rd {S : Nat → Prop} {w w' : World} {B Bi Bm g1 g2 g3 c1 c2 c3 : Nat} {K : List Int} {J Ps : List Nat} (h : St w B Bi Bm g1 g2 g3 c1 c2 c3 K J Ps) (T : Turn S w w') (hS : ∀ k, k < w.heap.size → k ≠ Bm → ¬ S k) : Rd w' g1 g2 g3 c1 c2 c3 B Bi K J Ps := by
  obtain ⟨a12, a13, a23, a1i, a2i, a3i, a1m, a2m, a3m, ap⟩ := h.apart
  have b1 := row_ge h.r1
  have b2 := row_ge h.r2
  have b3 := row_ge h.r3
  exact ⟨h.hJ, h.hP, h.wf, h.idx.turn T (hS _ h.idx.lt h.ne),
    T.ownsRow h.r1 (by intro g hg; (obtain rfl : g1 = g := by simpa [Value.ownBlock] using hg); exact hS _ b1.2 a1m),
    T.ownsRow h.r2 (by intro g hg; (obtain rfl : g2 = g := by simpa [Value.ownBlock] using hg); exact hS _ b2.2 a2m),
    T.ownsRow h.r3 (by intro g hg; (obtain rfl : g3 = g := by simpa [Value.ownBlock] using hg); exact hS _ b3.2 a3m),
    fun t ht => (T.block _ ((Array.getElem?_eq_some_iff.1 (h.own t ht).1).1) (hS _ ((Array.getElem?_eq_some_iff.1 (h.own t ht).1).1) (ap t ht).2.2.2.2)).trans (h.own t ht).1⟩

/-- What 'instanceNamed' leaves: the number was there .. -/
structure Was (w : World) (A Bm g c len : Nat) (number : Int) (u : Bool) (B : Nat) (zs K : List Int) (Ps : List Nat) (i p : Nat) : Prop where
  hi : i < K.length
  hK : K.getD i 0 = number
  hp : p = Ps.getD i 0
  inst : MapIs w Bm K (Ps.map ptr) (.pointer none)
  c17 : w.cell? ⟨A, 17, none⟩ = some (.map (some Bm))
  c18 : w.cell? ⟨A, 18, none⟩ = some (.slice (some ⟨g, 0, none⟩) len c)
  c19 : w.cell? ⟨A, 19, none⟩ = some (.bool u)
  row : w.ownsRow B 3 1 (.slice (some ⟨g, 0, none⟩) len c) len (zs.map (.int .i64))

/-- .. or it is new. -/
structure New (w : World) (A Bm g c len : Nat) (number line : Int) (u : Bool) (B : Nat) (zs K : List Int) (Ps : List Nat) (p : Nat) : Prop where
  hK : number ∉ K
  hp : ∀ t, t < K.length → Ps.getD t 0 ≠ p
  inst : MapIs w Bm (K ++ [number]) (Ps.map ptr ++ [ptr p]) (.pointer none)
  c17 : w.cell? ⟨A, 17, none⟩ = some (.map (some Bm))
  c18 : w.cell? ⟨A, 18, none⟩ = some (.slice (some ⟨g, 0, none⟩) (len + 1) c)
  c19 : w.cell? ⟨A, 19, none⟩ = some (.bool (u || (decide (0 < len) && decide (number < zs.getD (len - 1) 0))))
  row : w.ownsRow B 3 1 (.slice (some ⟨g, 0, none⟩) (len + 1) c) (len + 1) ((zs ++ [number]).map (.int .i64))
  new : w.heap[p]? = some (.cells #[.int .i64 line, .string ⟨#[]⟩, .int .i64 0] 39 (0, 0))

theorem named_any {B Bi Bm g1 g2 g3 c1 c2 c3 A g c len : Nat} {number line : Int} {u : Bool} {zs K : List Int} {J Ps : List Nat} {w0 w : World}
    (h : St w0 B Bi Bm g1 g2 g3 c1 c2 c3 K J Ps) (T : Turn (fun _ => False) w0 w) (hA0 : w0.heap.size ≤ A) (hg0 : w0.heap.size ≤ g) (hAg : A ≠ g) (hB : B ≤ w0.heap.size) (wn : (Lit.int .i64 number).wf = true) (hlen : len ≤ 65536) (hK : K.length ≤ 65536)
    (c17 : w.cell? ⟨A, 17, none⟩ = some (.map (some Bm))) (c18 : w.cell? ⟨A, 18, none⟩ = some (.slice (some ⟨g, 0, none⟩) len c)) (c19 : w.cell? ⟨A, 19, none⟩ = some (.bool u))
    (f18 : w.frozen? ⟨A, 18, none⟩ = false) (f19 : w.frozen? ⟨A, 19, none⟩ = false) (hr : w.ownsRow B 3 1 (.slice (some ⟨g, 0, none⟩) len c) len (zs.map (.int .i64))) :
    Calls Yba.prog 9 #[.pointer (some ⟨A, 0, none⟩), .int .i64 number, .int .i64 line] w fun e w' => ∃ p, e = .returned (.pointer (some ⟨p, 0, none⟩)) ∧
      Below B w w' ∧ Rd w' g1 g2 g3 c1 c2 c3 B Bi K J Ps ∧ ((∃ i, Was w' A Bm g c len number u B zs K Ps i p) ∨ (∃ g' c', New w' A Bm g' c' len number line u B zs K Ps p)) := by
  have bm := h.inst.lt
  have hAl : A < w.heap.size := World.block_lt_of_cell? w _ c17
  have hgl := row_ge hr
  have hi := h.inst.turn T (by simp)
  by_cases hx : number ∈ K
  · obtain ⟨i, hil, he⟩ := List.mem_iff_getElem.1 hx
    have he : K.getD i 0 = number := by simp [List.getElem?_eq_getElem hil, he]
    have hm := hi
    obtain ⟨D, m1, m2, m3, m4⟩ := hi
    have hv := m4 i hil
    rw [he] at hv
    have hP : (Ps.map ptr).getD i undef = .pointer (some ⟨Ps.getD i 0, 0, none⟩) := by
      have : i < Ps.length := by rw [h.hP]; exact hil
      simp [List.getElem?_eq_getElem this, ptr]
    rw [hP] at hv
    refine (named_was A Bm K.length number line D (Ps.getD i 0) w wn c17 m1 (by rw [m3]; simpa using hx) hv).mono ?_
    rintro e w' ⟨rfl, rfl⟩
    exact ⟨_, rfl, Below.refl _ _, h.rd T (by simp), .inl ⟨i, hil, he, rfl, hm, c17, c18, c19, hr⟩⟩
  · obtain ⟨D, m1, m2, m3, m4⟩ := hi
    refine (named_new A Bm K.length B number line D w wn u g c len zs hlen hK (by omega) hAg hgl.2 (by have := T.size; omega) c17 c18 c19 f18 f19 m1 (by rw [m3]; simpa using hx) hr).mono ?_
    rintro e w' ⟨rfl, g', c', TT, hsz, d17, d18, d19, dm, dr, dn⟩
    have hTA : Turn (fun k => k = A ∨ k = Bm ∨ k = g) w0 w' := (T.mono (by simp)).trans TT
    refine ⟨w.heap.size, rfl, TT.below (by have := T.size; omega) ?_, h.rd hTA ?_, .inr ⟨g', c', hx, ?_, ?_, d17, d18, d19, dr, dn⟩⟩
    · have := h.bm
      rintro k (e | e | e) <;> omega
    · intro k hk hkm
      rintro (e | e | e) <;> omega
    · intro t ht
      have hpl := (Array.getElem?_eq_some_iff.1 (h.own t ht).1).1
      have := T.size
      omega
    · exact mapIs_put (by simp [h.hP]) hx ⟨w, m1⟩ m2 m3 m4 dm

section
variable {w : World} {g1 g2 g3 c1 c2 c3 B Bi t : Nat} {K : List Int} {J Ps : List Nat}
theorem flat3 (J : List Nat) (t i : Nat) (ht : t < J.length) (hi : i < 3) : (J.flatMap inst3)[t * 3 + i]? = (inst3 (J.getD t 0))[i]? := by
  induction J generalizing t with
  | nil => simp at ht
  | cons j r ih =>
    cases t with
    | zero => rw [List.flatMap_cons, List.getElem?_append_left (by simp [inst3]; omega)]; simp
    | succ t =>
      have h3 : (inst3 j).length = 3 := rfl
      rw [List.flatMap_cons, List.getElem?_append_right (by omega), h3, show (t + 1) * 3 + i - 3 = t * 3 + i by omega, ih t (by simpa using ht)]
      simp
theorem Rd.key (h : Rd w g1 g2 g3 c1 c2 c3 B Bi K J Ps) (ht : t < K.length) : w.cell? ⟨g1, t, none⟩ = some (.int .i64 (K.getD t 0)) := by
  rw [h.r1.cellAt t (by omega)]; simp [List.getElem?_eq_getElem ht]
theorem Rd.ptr (h : Rd w g1 g2 g3 c1 c2 c3 B Bi K J Ps) (ht : t < K.length) : w.cell? ⟨g2, t, none⟩ = some (.pointer (some ⟨Ps.getD t 0, 0, none⟩)) := by
  have : t < Ps.length := by rw [h.hP]; exact ht
  rw [h.r2.cellAt t (by omega)]; simp [List.getElem?_eq_getElem this, Ybulkdwti.ptr]
theorem Rd.val (h : Rd w g1 g2 g3 c1 c2 c3 B Bi K J Ps) (ht : t < K.length) (i : Nat) (hi : i < 3) : w.cell? ⟨g3, t * 3 + i, none⟩ = (inst3 (J.getD t 0))[i]? := by
  rw [h.r3.cellAt _ (by omega), flat3 J t i (by rw [h.hJ]; exact ht) hi]
theorem Rd.inst (h : Rd w g1 g2 g3 c1 c2 c3 B Bi K J Ps) (ht : t < K.length) (i : Nat) : w.cell? ⟨Ps.getD t 0, i, none⟩ = (inst3 (J.getD t 0))[i]? := by
  rw [cell_of_row _ _ _ _ _ _ (h.own t ht)]; simp
end

theorem ptr_ne_same (a : Addr) (w : World) : (binOp .neq 37 (.pointer (some a)) (.pointer (some a))).run Yba.prog w = .ok (.bool false) w := by
  obtain ⟨i, hi, _⟩ := info_parts Yba.info39
  have h : ∀ d : Nat, (Op.equalIn (d + 1) 37 (.pointer (some a)) (.pointer (some a))).run Yba.prog w = .ok true w := fun d => by
    simp [Op.equalIn, run_underlying Yba.underlying37, sizeOf, typeInfo, hi, run_sameAddr_same]
  simp only [binOp]
  simp [Op.equal, Op.maxDepth, h 9999]
theorem ptr_eq_same (a : Addr) (w : World) : (binOp .eql 37 (.pointer (some a)) (.pointer (some a))).run Yba.prog w = .ok (.bool true) w := by
  obtain ⟨i, hi, _⟩ := info_parts Yba.info39
  exact run_eql_ptr_same w a Yba.underlying37 hi
theorem ptr_eq_other {a b : Addr} {w : World} {ca cb : Array Value} {ta tb : TypeId} (hne : a ≠ b) (ha : w.heap[a.block]? = some (.cells ca ta (0, 0))) (hb : w.heap[b.block]? = some (.cells cb tb (0, 0))) :
    (binOp .eql 37 (.pointer (some a)) (.pointer (some b))).run Yba.prog w = .ok (.bool false) w := by
  obtain ⟨i, hi, _, hs, _⟩ := info_parts Yba.info39
  exact run_eql_ptr_other w Yba.underlying37 hi (by rw [hs]; decide) hne ha hb

/-- The map of instances, whether or not the number was new. -/
theorem look_inst {w : World} {Bm : Nat} {K E : List Int} {Ps : List Nat} {vs : List Value} (h : MapIs w Bm (K ++ E) (Ps.map ptr ++ vs) (.pointer none)) (hP : Ps.length = K.length) (hw : ∀ x ∈ K, (Lit.int .i64 x).wf = true) {t : Nat} (ht : t < K.length) :
    (Instr.lookup 35 (.map (some Bm)) (.int .i64 (K.getD t 0)) false).run Yba.prog w = .ok (.pointer (some ⟨Ps.getD t 0, 0, none⟩)) w := by
  have e : (K ++ E).getD t 0 = K.getD t 0 := by simp [List.getElem?_append_left ht]
  have ht' : t < Ps.length := by rw [hP]; exact ht
  have := h.look (i := t) Yba.underlying35 (zero37 w) (by simp; omega) (by rw [e]; simp [List.getElem?_eq_getElem ht]; exact hw _ (List.getElem_mem ht))
  rw [e] at this
  rw [this]
  simp [ptr, List.getElem?_append_left, ht']

end Go.Proofs.Ybulkdwti

/-
  Identifiers (sixteen bytes) as letters: keys, equality; the map of the dead: its elements are all the zero time.
-/
import Derived.Test.YbulkdwxcA2
import Derived.WideKeyArr
import Derived.Maps.OwnSet
import Derived.DeepKeys5
namespace Go.Proofs.Ybulkdwxc
open Go.RowKit Go.Maps
set_option maxRecDepth 100000

/-- An identifier: sixteen bytes. -/
def Id16 (I : List Int) : Prop := I.length = 16 ∧ ∀ b ∈ I, (Lit.int .u8 b).wf = true
/-- Its cells. -/
def idv (I : List Int) : Array Value := (I.map (Value.int .u8)).toArray
theorem idv_inj {I J : List Int} (e : idv I = idv J) : I = J := by
  have : I.map (Value.int .u8) = J.map (Value.int .u8) := by simpa [idv] using congrArg Array.toList e
  exact List.map_inj_right (fun a b h => by cases h; rfl) |>.1 this
theorem idv_size {I : List Int} (h : Id16 I) : (idv I).size = 16 := by simp [idv, h.1]

theorem arr30 : WideMaps.ArrKey Yba.prog 30 5 16 := ⟨Yba.underlying30, by kernel_rfl, by kernel_rfl, by kernel_rfl⟩
theorem arr23 : WideMaps.ArrKey Yba.prog 23 5 16 := ⟨Yba.underlying23, by kernel_rfl, by kernel_rfl, by kernel_rfl⟩
theorem keyed30 : Keyed Yba.prog 30 := Keyed.of_law arr30.law
theorem keyed23 : Keyed Yba.prog 23 := Keyed.of_law arr23.law
theorem types_pos : ∃ m, Yba.prog.types.size = m + 1 := ⟨Yba.prog.types.size - 1, by kernel_rfl⟩

theorem mapM_some {α β : Type} (f : α → Option β) : ∀ L : List α, (∀ i ∈ L, ∃ y, f i = some y) → ∃ ys, L.mapM f = some ys
  | [], _ => ⟨[], rfl⟩
  | x :: xs, h => by
    obtain ⟨y, hy⟩ := h x (by simp)
    obtain ⟨ys, hys⟩ := mapM_some f xs (fun i hi => h i (by simp [hi]))
    exact ⟨y :: ys, by simp [hy, hys]⟩

theorem key_arr {k : TypeId} (A : WideMaps.ArrKey Yba.prog k 5 16) {I : List Int} (h : Id16 I) : ∃ l, keyOf Yba.prog k (.agg (idv I)) = some l := by
  obtain ⟨m, hm⟩ := types_pos
  have h16 : (idv I).toList.length = 16 := by simpa [idv] using h.1
  unfold keyOf
  rw [A.hu]
  simp only [A.keyType ⟨m, hm⟩, Bool.true_and]
  have hf : (Value.agg (idv I)).formed Yba.prog k = true := by simp [Value.formed, A.hu, A.size, idv_size h]
  rw [if_pos hf, hm]
  have : ∃ ys, (List.range 16).mapM (fun i => Yba.prog.keyLits (m + 1) 5 (((idv I).toList.drop (i * Yba.prog.cellsOf 5)).take (Yba.prog.cellsOf 5))) = some ys := by
    refine mapM_some _ _ fun i hi => ?_
    have hi' : i < I.length := by have := h.1; simp at hi; omega
    have hc : Yba.prog.cellsOf 5 = 1 := A.one
    have e : ((idv I).toList.drop i).take 1 = [.int .u8 I[i]] := by
      rw [List.drop_eq_getElem_cons (by simpa [idv] using hi')]
      simp [idv]
    refine ⟨[.int .u8 I[i]], ?_⟩
    rw [hc, Nat.mul_one, e]
    unfold Program.keyLits
    rw [Yba.underlying5]
    simp [h.2 _ (List.getElem_mem hi')]
  obtain ⟨ys, hys⟩ := this
  refine ⟨.string (keyBytes ys.flatten), ?_⟩
  unfold Program.keyLits
  rw [A.hu]
  simp only [Value.cells, h16, A.size, if_true, hys, Option.map_some]

/-- The key of an identifier. -/
noncomputable def kl (I : List Int) : Lit := (keyOf Yba.prog 30 (.agg (idv I))).getD (.bool true)
theorem kl_of {I : List Int} (h : Id16 I) : keyOf Yba.prog 30 (.agg (idv I)) = some (kl I) := by
  obtain ⟨l, hl⟩ := key_arr arr30 h
  rw [kl, hl]; rfl
theorem kl_inj {I J : List Int} (h : Id16 I) (k : Id16 J) (e : kl I = kl J) : I = J := by
  have h1 := kl_of h
  have h2 := kl_of k
  rw [← e] at h2
  have := keyed30.inj h1 h2
  simp only [Value.agg.injEq] at this
  exact idv_inj this

theorem equal_arr {k : TypeId} (A : WideMaps.ArrKey Yba.prog k 5 16) (w : World) {I J : List Int} (h : Id16 I) (g : Id16 J) : (Op.equal k (.agg (idv I)) (.agg (idv J))).run Yba.prog w = .ok (decide (I = J)) w := by
  obtain ⟨l, hl⟩ := key_arr A h
  obtain ⟨l', hl'⟩ := key_arr A g
  obtain ⟨r, hr, hi⟩ := run_equal_deep (P := Yba.prog) w (m := 0 + 2) (by omega) (A.at 0) A.wide hl hl'
  rw [hr]
  congr 1
  rw [Bool.eq_iff_iff, hi]
  simp only [decide_eq_true_eq]
  constructor
  · intro e
    rw [← e] at hl'
    have := (Keyed.of_law A.law).inj hl hl'
    simp only [Value.agg.injEq] at this
    exact idv_inj this
  · intro e
    subst e
    rw [hl] at hl'
    cases hl'
    rfl

theorem equal30 (w : World) {I J : List Int} (h : Id16 I) (g : Id16 J) : (Op.equal 30 (.agg (idv I)) (.agg (idv J))).run Yba.prog w = .ok (decide (I = J)) w := equal_arr arr30 w h g
theorem equal23 (w : World) {I J : List Int} (h : Id16 I) (g : Id16 J) : (Op.equal 23 (.agg (idv I)) (.agg (idv J))).run Yba.prog w = .ok (decide (I = J)) w := equal_arr arr23 w h g

/-- EVERY ELEMENT READS AS ITSELF. -/
def selfElem (v : Value) : Option (DataW Value × List MemPlace) := some (.held v, [])
/-- The zero time. -/
def z0 : Value := .agg #[.int .u64 0, .int .i64 0, .pointer none]
theorem zero29 (w : World) : (zeroValue 29).run Yba.prog w = .ok z0 w := by kernel_rfl

theorem lookup_self_ok {P : Program} {k e t : TypeId} {w : World} {b n : Nat} {D : DataW Value} (h : w.ownsMap P k selfElem b n D) (K : Keyed P k) (ht : P.underlying t = some (.map k e)) {z v : Value}
    (hz : (zeroValue e).run P w = .ok z w) {key : Value} {kl : Lit} (hkey : keyOf P k key = some kl) (hv : D.atKey kl (.held z) = .held v) :
    (Instr.lookup t (.map (some b)) key true).run P w = .ok (.tuple #[v, .bool (Maps.has D kl)]) w := by
  obtain ⟨u, ps, hrun, hu⟩ := h.look_ok K ht hz (zd := .held z) (zp := []) rfl hkey
  rw [hv] at hu
  simp only [selfElem, Option.some.injEq, Prod.mk.injEq, DataW.held.injEq] at hu
  obtain ⟨rfl, _⟩ := hu
  exact hrun

/-- THE MAP r HOLDS THE IDENTIFIERS Ks, n OF THEM DISTINCT. -/
def DeadIs (w : World) (r : Option Nat) (Ks : List (List Int)) (n : Nat) : Prop :=
  (r = none ∧ Ks = [] ∧ n = 0) ∨ ∃ b D, r = some b ∧ w.ownsMap Yba.prog 30 selfElem b Ks.length D ∧ (∀ I ∈ Ks, Id16 I) ∧ (∀ I, Id16 I → Maps.has D (kl I) = decide (I ∈ Ks)) ∧ (∀ I, Id16 I → D.atKey (kl I) (.held z0) = .held z0) ∧
    Maps.size D = n ∧ (n = 0 ↔ Ks = []) ∧ n ≤ Ks.length

theorem DeadIs.made (w : World) : DeadIs (w.alloc (.map #[] 0)) (some w.heap.size) [] 0 :=
  .inr ⟨_, .map [], rfl, World.ownsMap_made _ _ _ _, by simp, fun I _ => by simp [has_eq], fun I _ => rfl, rfl, by simp, Nat.le_refl _⟩

theorem DeadIs.kept {w w' : World} {r : Option Nat} {Ks : List (List Int)} {n : Nat} (h : DeadIs w r Ks n) (k : ∀ b, r = some b → b < w.heap.size → w'.heap[b]? = w.heap[b]?) : DeadIs w' r Ks n := by
  rcases h with h | ⟨b, D, rfl, hm, rest⟩
  · exact .inl h
  · have hlt := hm.lt
    obtain ⟨es, clock, hb, F, hs, hD⟩ := hm
    exact .inr ⟨b, D, rfl, ⟨es, clock, (k b rfl hlt).trans hb, F, hs, hD⟩, rest⟩

theorem DeadIs.below {w w' : World} {r : Option Nat} {Ks : List (List Int)} {n : Nat} (h : DeadIs w r Ks n) (k : Below w.heap.size w w') : DeadIs w' r Ks n :=
  h.kept fun b _ hb => k.block b hb

theorem DeadIs.lt {w : World} {b : Nat} {Ks : List (List Int)} {n : Nat} (h : DeadIs w (some b) Ks n) : b < w.heap.size := by
  rcases h with ⟨h, _⟩ | ⟨b, D, e, hm, rest⟩
  · cases h
  · cases e; exact hm.lt

theorem DeadIs.len {w : World} {r : Option Nat} {Ks : List (List Int)} {n : Nat} (h : DeadIs w r Ks n) (ty : TypeId) : (Builtin.len_ #[25] ty #[.map r]).run Yba.prog w = .ok (.int .i64 n) w := by
  rcases h with ⟨rfl, rfl, rfl⟩ | ⟨b, D, rfl, hm, _, _, _, hn, _⟩
  · simp [Builtin.len_, run_underlying Yba.underlying25, goInt, Result.andThen]
  · rw [hm.len Yba.underlying25 ty, hn]

theorem DeadIs.look {w : World} {r : Option Nat} {Ks : List (List Int)} {n : Nat} (h : DeadIs w r Ks n) (hn : n ≠ 0) {I : List Int} (hI : Id16 I) : (Instr.lookup 25 (.map r) (.agg (idv I)) true).run Yba.prog w = .ok (.tuple #[z0, .bool (decide (I ∈ Ks))]) w := by
  rcases h with ⟨rfl, rfl, h0⟩ | ⟨b, D, rfl, hm, _, hh, hv, _⟩
  · exact absurd h0 hn
  · have := lookup_self_ok hm keyed30 Yba.underlying25 (zero29 w) (kl_of hI) (hv I hI)
    rwa [hh I hI] at this

theorem DeadIs.zero {w : World} {r : Option Nat} {Ks : List (List Int)} {n : Nat} (h : DeadIs w r Ks n) : n = 0 ↔ Ks = [] := by
  rcases h with ⟨rfl, rfl, h0⟩ | ⟨b, D, rfl, hm, _, hh, hv, _, h0, _⟩
  · simp [h0]
  · exact h0

theorem DeadIs.le {w : World} {r : Option Nat} {Ks : List (List Int)} {n : Nat} (h : DeadIs w r Ks n) : n ≤ Ks.length := by
  rcases h with ⟨rfl, rfl, h0⟩ | ⟨b, D, rfl, hm, _, hh, hv, _, _, h0⟩
  · simp [h0]
  · exact h0

/-- 'dl[id] = time.Time{}' AT THE OPERATION. -/
theorem wpList_dead_put (w : World) {ops : Array Oper} {rest : List Oper} {o : Oper} {a : Act} {Q : Exit → Act → World → Prop} (hg : o.guard = none) (m x v : Operand) (hop : o.op = Op.mapUpdate 25 m x v)
    (b : Nat) (Ks : List (List Int)) (n : Nat) (hm : a.eval m = .map (some b)) (hown : DeadIs w (some b) Ks n) (hK : Ks.length ≤ 65536) (I : List Int) (hI : Id16 I) (hx : a.eval x = .agg (idv I)) (hv : a.eval v = z0)
    (h : ∀ w' n', DeadIs w' (some b) (Ks ++ [I]) n' → w.grownBy w' (some b) → wpList Yba.prog ops Q rest (a.put o.dst undef) w') :
    wpList Yba.prog ops Q (o :: rest) a w := by
  rcases hown with ⟨h0, _⟩ | ⟨b', D, e, hm1, hids, hh, hat, hs, hz, hle⟩
  · cases h0
  cases e
  have ht := hm1.tidy keyed30
  refine wpList_mapUpdate_own w hg m x v 25 hop 30 29 keyed30 Yba.underlying25 selfElem b Ks.length D hm hm1 (by unfold maxLen; omega) _ _ _ hx hv (kl_of hI) (.held z0) [] rfl ?_
  intro w' hp hgr
  refine h w' (Maps.size (D.put (kl I) (.held z0))) (.inr ⟨b, _, rfl, by simpa using hp, ?_, ?_, ?_, rfl, ?_, ?_⟩) hgr
  · intro J hJ
    rcases List.mem_append.1 hJ with h | h
    · exact hids J h
    · simp at h; exact h ▸ hI
  · intro J hJ
    by_cases e : J = I
    · subst e
      rw [has_put_same ht.isMap (keyed30.key (kl_of hI))]; simp
    · rw [has_put_other (fun h => e (kl_inj hJ hI h)), hh J hJ]; simp [e]
  · intro J hJ
    by_cases e : J = I
    · subst e
      exact atKey_put_same ht.isMap (keyed30.key (kl_of hI)) _ _
    · rw [atKey_put_other (fun h => e (kl_inj hJ hI h)), hat J hJ]
  · rw [size_put ht]
    by_cases hb : Maps.has D (kl I) = true
    · rw [if_pos hb]
      have : Ks ≠ [] := by
        intro e
        rw [hh I hI, e] at hb
        simp at hb
      have := mt hz.1 (by simpa using this)
      simp; omega
    · rw [if_neg hb]; simp
  · rw [size_put ht]
    split <;> simp <;> omega

end Go.Proofs.Ybulkdwxc

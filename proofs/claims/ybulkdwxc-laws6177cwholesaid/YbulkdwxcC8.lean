/-
  6177C: pingBack over the law's memory.
-/
import Derived.Test.YbulkdwxcC7
namespace Go.Proofs.Ybulkdwxc
open Go.RowKit Go.Maps Go.Sort

/-- The first place of a key. -/
def FstM (n : Nat) (K : Nat → Int) (k : Int) (r : Option Nat) : Prop :=
  match r with
  | none => ∀ j, j < n → K j ≠ k
  | some i => i < n ∧ K i = k ∧ ∀ j, j < i → K j ≠ k

/-- What pingBack does: 0 refuse, 1 ping, 2 ping back. -/
def modeC (M : Md) (p : Int) (dead : Bool) (nn ns tick : Int) (r : Option Nat) : Int :=
  match r with
  | none => 0
  | some i => if M.P i = p ∧ dead = false ∧ M.A i = 0 ∧ M.B i = 0 then (if tick ≤ subT nn ns (tn (M.C i)) (ts (M.C i)) then 1 else 2) else 0

/-- A link behind the call. -/
def Md.lnkF (M : Md) (rp : Nat → Nat) (h1 h2 : Bool) (nn ns rq : Int) (j : Nat) : List Value :=
  lnkC (M.K j) (M.P j) (rp j) (tn (M.C j)) (ts (M.C j)) (if h1 then nn else 0) (if h1 then ns else 0) (if h1 then rq else M.A j) (if h1 then nn else 0) (if h1 then ns else 0) (if h2 then rq else M.B j) (if h2 then nn else 0) (if h2 then ns else 0) (M.L j)
theorem Md.lnkF_no (M : Md) (rp : Nat → Nat) (nn ns rq : Int) (j : Nat) : M.lnkF rp false false nn ns rq j = M.lnk rp j := rfl

/-- WHAT pingBack LEAVES. -/
structure Aft (w w' : World) (m bk : Int) (pv : Value) (gt gc gq n : Nat) (lp rp : Nat → Nat) (M : Md) (nn ns rq dig : Int) (r : Option Nat) : Prop where
  bk_ : bk = if m = 2 then rq else 0
  m0 : m ≠ 1 → pv = .pointer none
  m1 : m = 1 → ∃ i go ge, r = some i ∧ pv = .pointer (some ⟨go, 0, none⟩) ∧ w'.heap[go]? = some (.cells #[.slice (some ⟨rp i, 0, none⟩) 1 1, .pointer (some ⟨ge, 0, none⟩)] 86) ∧ w'.heap[ge]? = some (.cells (msgC rq (M.L i) dig) 104)
  cc : w'.cell? ⟨gc, 0, none⟩ = some (.int .i64 (if m = 0 then 0 else 1))
  lk : ∀ j, j < n → w'.rangeAt (lp j) 0 (M.lnkF rp (decide (r = some j) && decide (m = 1)) (decide (r = some j) && decide (m = 2)) nn ns rq j)
  T : Turn (fun k => k = gc ∨ ∃ j, j < n ∧ k = lp j) w w'

theorem getD_map {α : Type} (f : Nat → α) (d : α) {n i : Nat} (h : i < n) : ((List.range n).map f).getD i d = f i := by simp [h]

theorem Fst_of {n : Nat} {K : Nat → Int} {k : Int} {r : Option Nat} (h : FstM n K k r) : Fst ((List.range n).map K) k r := by
  cases r with
  | none => intro j hj; simp only [List.length_map, List.length_range] at hj; rw [getD_map _ _ hj]; exact h j hj
  | some i =>
    obtain ⟨h1, h2, h3⟩ := h
    exact ⟨by simpa using h1, by rw [getD_map _ _ h1]; exact h2, fun j hj => by rw [getD_map _ _ (by omega)]; exact h3 j hj⟩

theorem lnk_range {w : World} {B n : Nat} {lp rp : Nat → Nat} {M : Md} (h : Lk w B n lp rp M) {j : Nat} (hj : j < n) : w.rangeAt (lp j) 0 (M.lnk rp j) :=
  range_of_block (h.at_ j hj) 0 _ fun k v hv => by simpa using hv

set_option maxRecDepth 100000 in
theorem back_all (gt gI gL gm gc gq n B nd : Nat) (lp rp : Nat → Nat) (M : Md) (k p nn ns rq dig tick : Int) (rr : Option Nat) (Ks : List (List Int)) (r : Option Nat) (hk : (Lit.int .u8 k).wf = true) (hK : ∀ j, j < n → (Lit.int .u8 (M.K j)).wf = true) (hn : n ≤ 65536) (hF : FstM n M.K k r)
    (b0 : 0 ≤ nn) (b0' : nn < 1000000000) (b1 : -100000000000 ≤ ns ∧ ns ≤ 100000000000) (hC : ∀ j, j < n → -9223372036854775808 ≤ M.C j ∧ M.C j ≤ 9223372036854775807) (hnd : nd ≤ 65536)
    (w : World) (hB : Bs w gq gm gt rr Ks nd rq tick dig) (h22 : w.cell? ⟨gt, 22, none⟩ = some (.slice (some ⟨gL, 0, none⟩) n n)) (h23 : w.cell? ⟨gt, 23, none⟩ = some (.slice (some ⟨gI, 0, none⟩) n n))
    (hI : Rw w gI n 16 n fun j => (idv (idk (M.K j))).toList) (hL : Rw w gL n 1 n fun j => [.pointer (some ⟨lp j, 0, none⟩)]) (hLk : Lk w B n lp rp M) (hBgt : gt < B) (hBgq : gq < B)
    (hc : w.cell? ⟨gc, 0, none⟩ = some (.int .i64 0)) (hcf : w.frozen? ⟨gc, 0, none⟩ = false) (n3 : gc ≠ gq) (n5 : gc ≠ gt) (n1 : ∀ j, j < n → lp j ≠ gc) :
    Calls Yba.prog 12 #[.pointer (some ⟨gt, 0, none⟩), .agg (peerP (idk k) p), .agg #[.int .u64 nn, .int .i64 ns, .pointer none], .func (.func 11) #[] #[.pointer (some ⟨gc, 0, none⟩), .pointer (some ⟨gq, 0, none⟩)]] w
      fun e w' => ∃ bk pv, e = .returned (.tuple #[.int .u64 bk, pv]) ∧ Aft w w' (modeC M p (decide (idk k ∈ Ks)) nn ns tick r) bk pv gt gc gq n lp rp M nn ns rq dig r := by
  have LK : ∀ w', Below w.heap.size w w' → Calls Yba.prog 22 #[.pointer (some ⟨gt, 0, none⟩), .agg (peerP (idk k) p)] w' fun e w'' => e = .returned (lptr ((List.range n).map lp) (lof ((List.range n).map M.P) p r)) ∧ Below w'.heap.size w' w'' := by
    intro w' hb
    have hLk' := hLk.below hb
    have hI' := hI.below hb
    have hL' := hL.below hb
    refine linkOf_any gt gI gL n _ _ _ k p r hk ?_ (by simp) hn (Fst_of hF) w' ((hb.cell (World.block_lt_of_cell? w _ h22)).trans h22) ((hb.cell (World.block_lt_of_cell? w _ h23)).trans h23) ?_ hI'.lt ?_ ?_
    · intro x hx
      simp only [List.mem_map, List.mem_range] at hx
      obtain ⟨j, hj, rfl⟩ := hx
      exact hK j hj
    · intro i hi
      rw [getD_map _ _ hi]
      exact hI'.at_ i hi
    · intro i hi
      rw [getD_map _ _ hi]
      exact hL'.cell hi
    · intro i hi
      rw [getD_map _ _ hi, getD_map _ _ hi, getD_map _ _ hi]
      exact ⟨lnkC_peer (lnk_range hLk' hi), hLk'.lt hi⟩
  have STAY : ∀ w' m, Below w.heap.size w w' → m = 0 → Aft w w' m 0 (.pointer none) gt gc gq n lp rp M nn ns rq dig r := by
    rintro w' _ hb rfl
    refine ⟨by simp, fun _ => rfl, fun h => by simp at h, by simpa using (hb.cell (World.block_lt_of_cell? w _ hc)).trans hc, fun j hj => ?_, .of_below hb⟩
    simp only [show decide ((0 : Int) = 1) = false from rfl, show decide ((0 : Int) = 2) = false from rfl, Bool.and_false, M.lnkF_no]
    exact lnk_range (hLk.below hb) hj
  cases r with
  | none =>
    refine (back_none gt k p nn ns _ w LK).mono ?_
    rintro e w' ⟨rfl, hb⟩
    exact ⟨0, _, rfl, STAY w' _ hb rfl⟩
  | some i =>
    obtain ⟨hi, hKi, hFi⟩ := hF
    by_cases hp : M.P i = p
    · have hlof : lptr ((List.range n).map lp) (lof ((List.range n).map M.P) p (some i)) = .pointer (some ⟨lp i, 0, none⟩) := by
        simp only [lof]
        rw [getD_map _ _ hi, if_pos hp]
        simp only [lptr]
        rw [getD_map _ _ hi]
      rw [hlof] at LK
      have DE : ∀ w', Below w.heap.size w w' → Calls Yba.prog 16 #[.pointer (some ⟨gt, 0, none⟩), .pointer (some ⟨lp i, 0, none⟩)] w' fun e w'' => e = .returned (.bool (decide (idk k ∈ Ks))) ∧ Below w'.heap.size w' w'' := by
        intro w' hb
        have hLk' := hLk.below hb
        have hB' := hB.below hb
        exact dead_any gt (lp i) (peerP (idk k) p) (idk k) rr Ks nd (peerP_size rfl _) (peerP_one rfl _) (idk_id hk) (peerP_id rfl _) hnd w' (by have := lnkC_peer (lnk_range hLk' hi); rwa [hKi, hp] at this) (hLk'.lt hi) hB'.t21 hB'.dd
      have H : PB w gt (lp i) gc gq (lnkC k p (rp i) (tn (M.C i)) (ts (M.C i)) 0 0 (M.A i) 0 0 (M.B i) 0 0 (M.L i)) dig 0 rq :=
        ⟨by have := lnk_range hLk hi; unfold Md.lnk at this; rwa [hKi, hp] at this, fun j => frozen_of_row _ _ _ _ _ (hLk.at_ i hi), hB.t24, hc, hcf, hB.cq⟩
      by_cases hno : decide (idk k ∈ Ks) = true ∨ M.A i ≠ 0 ∨ M.B i ≠ 0
      · refine (back_dead gt (lp i) gc gq (rp i) k p _ _ _ _ _ _ _ _ _ _ _ nn ns 0 rq dig w H (hLk.lt hi) _ _ LK DE hno).mono ?_
        rintro e w' ⟨rfl, hb⟩
        refine ⟨0, _, rfl, STAY w' _ hb ?_⟩
        simp only [modeC]
        rw [if_neg]
        rintro ⟨_, h1, h2, h3⟩
        rcases hno with h | h | h
        · rw [h1] at h; cases h
        · exact h h2
        · exact h h3
      · have e1 : decide (idk k ∈ Ks) = false := by
          cases h : decide (idk k ∈ Ks)
          · rfl
          · exact absurd (.inl h) hno
        have e2 : M.A i = 0 := Classical.byContradiction fun h => hno (.inr (.inl h))
        have e3 : M.B i = 0 := Classical.byContradiction fun h => hno (.inr (.inr h))
        rw [e1] at DE
        rw [e2, e3] at H
        have hlo := hLk.lo i hi
        have LV : Live w gt (lp i) gc gq (rp i) gm k p (tn (M.C i)) (ts (M.C i)) 0 0 0 0 0 0 (M.L i) nn ns rq dig tick (subT nn ns (tn (M.C i)) (ts (M.C i))) :=
          ⟨H, hLk.lt hi, n1 i hi, by omega, n3, by omega, n5, hB.t20, hB.ck, LK, DE, sub_any nn ns _ _ b0 b0' (tn_lo _) (tn_hi _) b1 (ts_in (hC i hi))⟩
        have hT : ∀ {w'}, Turn (fun k => k = lp i ∨ k = gc) w w' → Turn (fun k => k = gc ∨ ∃ j, j < n ∧ k = lp j) w w' := fun T => T.mono fun k hk => hk.elim (fun e => .inr ⟨i, hi, e⟩) .inl
        have OT : ∀ {w'}, Turn (fun k => k = lp i ∨ k = gc) w w' → ∀ j, j < n → j ≠ i → w'.rangeAt (lp j) 0 (M.lnk rp j) := fun T j hj hji => T.range (lnk_range hLk hj) (hLk.lt hj) (fun h => h.elim (fun e => hLk.ne j i hj hi hji e) (fun e => n1 j hj e))
        by_cases hd : tick ≤ subT nn ns (tn (M.C i)) (ts (M.C i))
        · have em : modeC M p (decide (idk k ∈ Ks)) nn ns tick (some i) = 1 := by simp only [modeC]; rw [if_pos ⟨hp, e1, e2, e3⟩, if_pos hd]
          rw [em]
          refine (back_ping LV hd).mono ?_
          rintro e w' ⟨go, ge, rfl, h1, h2, h3, T⟩
          refine ⟨0, _, rfl, by simp, fun h => absurd rfl h, fun _ => ⟨i, go, ge, rfl, rfl, h1, h2⟩, by simpa using h3.cc, fun j hj => ?_, hT T⟩
          by_cases hji : j = i
          · subst hji
            have := h3.link
            simp only [Md.lnkF, decide_true, Bool.and_self, show decide ((1 : Int) = 2) = false from rfl, Bool.and_false, if_true]
            rw [hKi, hp, e3]
            exact this
          · rw [show decide (some i = some j) = false by simp; omega]
            exact OT T j hj hji
        · have em : modeC M p (decide (idk k ∈ Ks)) nn ns tick (some i) = 2 := by simp only [modeC]; rw [if_pos ⟨hp, e1, e2, e3⟩, if_neg hd]
          rw [em]
          refine (back_back LV (by omega)).mono ?_
          rintro e w' ⟨rfl, h3, T⟩
          refine ⟨rq, _, rfl, by simp, fun _ => rfl, fun h => by simp at h, by simpa using h3.cc, fun j hj => ?_, hT T⟩
          by_cases hji : j = i
          · subst hji
            have := h3.link
            simp only [Md.lnkF, decide_true, Bool.and_self, show decide ((2 : Int) = 1) = false from rfl, Bool.and_false, if_true]
            rw [hKi, hp, e2]
            exact this
          · rw [show decide (some i = some j) = false by simp; omega]
            exact OT T j hj hji
    · have hlof : lptr ((List.range n).map lp) (lof ((List.range n).map M.P) p (some i)) = .pointer none := by
        simp only [lof]
        rw [getD_map _ _ hi, if_neg hp]
        rfl
      rw [hlof] at LK
      refine (back_none gt k p nn ns _ w LK).mono ?_
      rintro e w' ⟨rfl, hb⟩
      refine ⟨0, _, rfl, STAY w' _ hb ?_⟩
      simp only [modeC]
      rw [if_neg (fun h => hp h.1)]
end Go.Proofs.Ybulkdwxc

/-
  6178A: the runs, in plain numbers.
-/
import Derived.Test.YbulkdwxqS4
import Derived.Deep.AppendLies
namespace Go.Proofs.Ybulkdwxq
open Go.RowKit Go.Sort

/-- A run that is listed starts here. -/
def isSt (S : Nat → Int) (v : Int) (t : Nat) : Bool := (decide (t = 0) || !decide (S (t - 1) = S t)) && !decide (S t = v)
/-- How many start ahead of i. -/
def cnt (S : Nat → Int) (v : Int) : Nat → Nat
  | 0 => 0
  | i + 1 => cnt S v i + (if isSt S v i = true then 1 else 0)
/-- The run from t ends at e. -/
def Eor (S : Nat → Int) (N t e : Nat) : Prop := t < e ∧ e ≤ N ∧ (∀ u, t ≤ u → u < e → S u = S t) ∧ (e = N ∨ S e ≠ S t)
/-- The runs ahead of k. -/
def Runs (S : Nat → Int) (v : Int) (N k : Nat) (xs : List (Nat × Nat)) : Prop := xs.length = cnt S v k ∧ ∀ t, t < k → isSt S v t = true → ∃ e, xs[cnt S v t]? = some (t, e) ∧ Eor S N t e
/-- A run may start at k. -/
def Bnd (S : Nat → Int) (k : Nat) : Prop := k = 0 ∨ S (k - 1) ≠ S k
section
variable {S : Nat → Int} {v : Int} {N : Nat}
theorem cnt_le : ∀ {i j : Nat}, i ≤ j → cnt S v i ≤ cnt S v j := by
  intro i j h
  induction j with
  | zero =>
    have h0 : i = 0 := by omega
    rw [h0]; exact Nat.le_refl _
  | succ j ih =>
    rcases Nat.lt_or_ge i (j + 1) with h1 | h1
    · have := ih (by omega)
      simp only [cnt]
      omega
    · obtain rfl : i = j + 1 := by omega
      exact Nat.le_refl _
theorem cnt_id (i : Nat) : cnt S v i ≤ i := by
  induction i with
  | zero => exact Nat.le_refl _
  | succ i ih => simp only [cnt]; split <;> omega
theorem not_start {k e t : Nat} (h : Eor S N k e) (h1 : k < t) (h2 : t < e) : isSt S v t = false := by
  have a := h.2.2.1 t (by omega) h2
  have b := h.2.2.1 (t - 1) (by omega) (by omega)
  unfold isSt
  rw [show decide (t = 0) = false by simp; omega, show decide (S (t - 1) = S t) = true by simp [a, b]]
  rfl
theorem cnt_run {k e : Nat} (h : Eor S N k e) : ∀ t, k + 1 ≤ t → t ≤ e → cnt S v t = cnt S v (k + 1) := by
  intro t
  induction t with
  | zero => intro h1; omega
  | succ t ih =>
    intro h1 h2
    rcases Nat.lt_or_ge k t with h3 | h3
    · have := ih (by omega) (by omega)
      simp only [cnt]
      rw [not_start h h3 (by omega), this]
      simp [cnt]
    · obtain rfl : t = k := by omega
      rfl
theorem start_iff {k : Nat} (hb : Bnd S k) : isSt S v k = !decide (S k = v) := by
  unfold isSt
  rcases hb with rfl | hb
  · simp
  · rw [show decide (S (k - 1) = S k) = false by simpa using hb]
    simp
theorem Runs.skip {k e : Nat} {xs : List (Nat × Nat)} (h : Runs S v N k xs) (hb : Bnd S k) (he : Eor S N k e) (hv : S k = v) : Runs S v N e xs := by
  have hs : isSt S v k = false := by rw [start_iff hb]; simp [hv]
  have hc : cnt S v e = cnt S v k := by
    rw [cnt_run he e (by have := he.1; omega) (Nat.le_refl _)]
    simp [cnt, hs]
  refine ⟨by rw [hc]; exact h.1, fun t ht hst => ?_⟩
  rcases Nat.lt_trichotomy t k with h1 | h1 | h1
  · exact h.2 t h1 hst
  · subst h1; rw [hs] at hst; cases hst
  · rw [not_start he h1 ht] at hst; cases hst
theorem Runs.take {k e : Nat} {xs : List (Nat × Nat)} (h : Runs S v N k xs) (hb : Bnd S k) (he : Eor S N k e) (hv : S k ≠ v) : Runs S v N e (xs ++ [(k, e)]) := by
  have hs : isSt S v k = true := by rw [start_iff hb]; simp [hv]
  have hc : cnt S v e = cnt S v k + 1 := by
    rw [cnt_run he e (by have := he.1; omega) (Nat.le_refl _)]
    simp [cnt, hs]
  refine ⟨by rw [hc, List.length_append, h.1]; rfl, fun t ht hst => ?_⟩
  rcases Nat.lt_trichotomy t k with h1 | h1 | h1
  · obtain ⟨e', h2, h3⟩ := h.2 t h1 hst
    exact ⟨e', by rw [List.getElem?_append_left (List.getElem?_eq_some_iff.1 h2).1]; exact h2, h3⟩
  · subst h1
    exact ⟨e, by rw [← h.1, List.getElem?_append_right (Nat.le_refl _)]; simp, he⟩
  · rw [not_start he h1 ht] at hst; cases hst
theorem Eor.bnd {k e : Nat} (h : Eor S N k e) (he : e ≠ N) : Bnd S e := by
  refine .inr ?_
  rw [h.2.2.1 (e - 1) (by have := h.1; omega) (by have := h.1; omega)]
  rcases h.2.2.2 with h1 | h1
  · exact absurd h1 he
  · exact fun x => h1 x.symm
theorem Runs.zero : Runs S v N 0 [] := ⟨rfl, fun t ht => by omega⟩
theorem Eor.unique {t e e' : Nat} (h : Eor S N t e) (h' : Eor S N t e') : e = e' := by
  rcases Nat.lt_trichotomy e e' with h1 | h1 | h1
  · rcases h.2.2.2 with h2 | h2
    · have := h'.2.1; omega
    · exact absurd (h'.2.2.1 e (by have := h.1; omega) h1) h2
  · exact h1
  · rcases h'.2.2.2 with h2 | h2
    · have := h.2.1; omega
    · exact absurd (h.2.2.1 e' (by have := h'.1; omega) h1) h2
end
end Go.Proofs.Ybulkdwxq

import Derived.Test.Qxb6615804aCopy
namespace Go.Proofs.Qxb6615804a
open Go.RowKit
set_option linter.unusedVariables false
set_option linter.unusedSimpArgs false

/-- the starts of a chunking -/
def sOf (E : Nat → Int) (k : Nat) : Nat := (pv E k).toNat

section
variable {E : Nat → Int} {K n : Nat}

theorem GE.pos (h : GE E K n) {k : Nat} (hk : k ≤ K) : 0 ≤ pv E k := pv_nonneg (n := n) (fun j hj => h.up j (by omega))

theorem GE.zero (h : GE E K n) : sOf E 0 = 0 := by simp [sOf, pv]

theorem GE.end (h : GE E K n) : sOf E K = n := by
  by_cases h0 : n = 0
  · rw [h.none h0, h0]; simp [sOf, pv]
  · obtain ⟨h1, h2⟩ := h.last h0
    unfold sOf pv
    rw [if_neg (by omega), h2]
    omega

theorem GE.cell (h : GE E K n) {k : Nat} (hk : k < K) : E k = (sOf E (k + 1) : Int) := by
  have h1 := h.pos (k := k) (by omega)
  have h2 := (h.up k hk).1
  unfold sOf
  rw [pv_succ]
  omega

theorem GE.step (h : GE E K n) : ∀ k, k < K → sOf E k < sOf E (k + 1) := by
  intro k hk
  have h1 := h.pos (k := k) (by omega)
  have h2 := (h.up k hk).1
  unfold sOf
  rw [pv_succ]
  omega

theorem GE.row (h : GE E K n) {w : World} {a : Option Addr} (hr : CRow w a K fun k => .int .i64 (E k)) : CRow w a K fun k => .int .i64 (sOf E (k + 1) : Int) := by
  rcases hr with h0 | ⟨b, off, h1, h2, h3⟩
  · exact .inl h0
  · exact .inr ⟨b, off, h1, h2, fun i hi => by rw [h3 i hi]; simp only; rw [h.cell hi]⟩
end

/-- how many lie below v, counted -/
def cntB (V : Nat → Nat) (v : Nat) : Nat → Nat
  | 0 => 0
  | i + 1 => if V i < v then cntB V v i + 1 else cntB V v i

/-- is v among them -/
def thB (V : Nat → Nat) (v : Nat) : Nat → Bool
  | 0 => false
  | i + 1 => if V i = v then true else thB V v i

section
variable {V : Nat → Nat} {n v : Nat}

theorem asc (hup : ∀ i, i < n → 0 < i → V (i - 1) < V i) {i j : Nat} (hij : i < j) (hj : j < n) : V i < V j := by
  induction j with
  | zero => omega
  | succ j ih =>
    have h1 := hup (j + 1) hj (by omega)
    simp at h1
    by_cases e : i = j
    · subst e; exact h1
    · exact Nat.lt_trans (ih (by omega) (by omega)) h1

theorem cnt_law (hup : ∀ i, i < n → 0 < i → V (i - 1) < V i) (i : Nat) (hi : i ≤ n) : cntB V v i ≤ i ∧ (∀ t, t < cntB V v i → V t < v) ∧ ∀ t, cntB V v i ≤ t → t < i → v ≤ V t := by
  induction i with
  | zero => exact ⟨Nat.le_refl _, fun t ht => absurd ht (by simp [cntB]), fun t _ ht => absurd ht (by omega)⟩
  | succ i ih =>
    obtain ⟨h1, h2, h3⟩ := ih (by omega)
    unfold cntB
    by_cases hv : V i < v
    · rw [if_pos hv]
      have e : cntB V v i = i := by
        rcases Nat.lt_or_ge (cntB V v i) i with h | h
        · have h4 := h3 (cntB V v i) (Nat.le_refl _) h
          have h5 := asc hup h (by omega)
          omega
        · omega
      rw [e] at h2 h3 ⊢
      refine ⟨Nat.le_refl _, fun t ht => ?_, fun t h4 h5 => by omega⟩
      by_cases e2 : t = i
      · subst e2; exact hv
      · exact h2 t (by omega)
    · rw [if_neg hv]
      refine ⟨by omega, h2, fun t h4 h5 => ?_⟩
      by_cases e2 : t = i
      · subst e2; omega
      · exact h3 t h4 (by omega)

theorem th_law (i : Nat) : thB V v i = true ↔ ∃ t, t < i ∧ V t = v := by
  induction i with
  | zero => simp [thB]
  | succ i ih =>
    unfold thB
    by_cases h : V i = v
    · rw [if_pos h]
      exact ⟨fun _ => ⟨i, by omega, h⟩, fun _ => rfl⟩
    · rw [if_neg h, ih]
      constructor
      · rintro ⟨t, h1, h2⟩
        exact ⟨t, by omega, h2⟩
      · rintro ⟨t, h1, h2⟩
        refine ⟨t, ?_, h2⟩
        rcases Nat.lt_or_ge t i with h3 | h3
        · exact h3
        · obtain rfl : t = i := by omega
          exact absurd h2 h

theorem low_of (X : Nat → Ent) (hup : ∀ i, i < n → 0 < i → (X (i - 1)).v < (X i).v) (v : Nat) : Low X n v (cntB (fun i => (X i).v) v n) := by
  obtain ⟨h1, h2, h3⟩ := cnt_law (V := fun i => (X i).v) (v := v) hup n (Nat.le_refl _)
  exact ⟨h1, h2, h3⟩

theorem there_of (X : Nat → Ent) (hup : ∀ i, i < n → 0 < i → (X (i - 1)).v < (X i).v) (v : Nat) : there X n v (cntB (fun i => (X i).v) v n) = thB (fun i => (X i).v) v n := by
  obtain ⟨h1, h2, h3⟩ := cnt_law (V := fun i => (X i).v) (v := v) hup n (Nat.le_refl _)
  generalize cntB (fun i => (X i).v) v n = r at *
  rw [Bool.eq_iff_iff, th_law]
  unfold there
  simp only [Bool.and_eq_true, decide_eq_true_eq, beq_iff_eq]
  constructor
  · rintro ⟨h4, h5⟩
    exact ⟨r, h4, h5⟩
  · rintro ⟨t, h4, h5⟩
    have h6 : r ≤ t := by
      rcases Nat.lt_or_ge t r with h | h
      · have := h2 t h; omega
      · exact h
    refine ⟨by omega, ?_⟩
    have h7 := h3 r (Nat.le_refl _) (by omega)
    by_cases e : r = t
    · subst e; exact h5
    · have := asc (V := fun i => (X i).v) hup (i := r) (j := t) (by omega) h4
      omega
end

end Go.Proofs.Qxb6615804a

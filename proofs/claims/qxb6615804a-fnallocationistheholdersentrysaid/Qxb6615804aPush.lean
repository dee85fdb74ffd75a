import Derived.Test.Qxb6615804aBld
namespace Go.Proofs.Qxb6615804a
open Go.RowKit
set_option linter.unusedVariables false
set_option linter.unusedSimpArgs false

/-- f, but v at k -/
def upd (f : Nat → Nat) (k v : Nat) : Nat → Nat := fun c => if c = k then v else f c

theorem upd_same (f : Nat → Nat) (k v : Nat) : upd f k v k = v := by simp [upd]
theorem upd_other (f : Nat → Nat) {k c : Nat} (v : Nat) (h : c ≠ k) : upd f k v c = f c := by simp [upd, h]

section
variable {w0 wr : World} {tb mb : Nat} {c2 c3 c4 c5 c6 : Value} {s : Nat → Nat} {X : Nat → Ent} {k : Nat} {chv : Value} {ib cp : Nat → Nat}

theorem Bl.push (h : Bl w0 wr tb mb c2 c3 c4 c5 c6 s X k chv ib cp) {g cp0 m : Nat} (hm : m = s (k + 1) - s k) (hit : wr.ownsRow w0.heap.size 60 8 (.slice (some ⟨g, 0, none⟩) m cp0) m (slCells X (s k) m)) (hsep : ∀ c, c < k → ib c ≠ g)
    {wa w1 : World} (ha : wr.grownBy wa none) {g' cap : Nat} (hown : w1.ownsRow w0.heap.size 62 4 (.slice (some ⟨g', 0, none⟩) (k + 1) cap) (k + 1) (chCells s ib cp k ++ chCell g m cp0 (s (k + 1)))) (hgr : wa.grownBy w1 chv.ownBlock) :
    Bl w0 (w1.setCell ⟨tb, 1, none⟩ (.slice (some ⟨g', 0, none⟩) (k + 1) cap)) tb mb c2 c3 c4 c5 c6 s X (k + 1) (.slice (some ⟨g', 0, none⟩) (k + 1) cap) (upd ib k g) (upd cp k cp0) := by
  have h1 := h.more ha
  obtain ⟨hgB, cs, hgc⟩ := own_block hit (g := g) rfl
  have hgc1 : wa.heap[g]? = some (.cells cs 60 (0, 0)) := (ha.block _ (lt_heap hgc) (by simp)).trans hgc
  have hne : ∀ (b e : Nat) (cs : Array Value), wa.heap[b]? = some (.cells cs e (0, 0)) → e ≠ 62 → some b ≠ chv.ownBlock := by
    intro b e cs hb he hv
    obtain ⟨_, cs', hc⟩ := own_block h1.row (g := b) hv.symm
    rw [hb] at hc
    simp at hc
    exact he hc.2
  have htab : w1.heap[tb]? = some (.cells #[.map (some mb), chv, c2, c3, c4, c5, c6] 56 (0, 0)) := (hgr.block _ (lt_heap h1.tab) (hne _ _ _ h1.tab (by simp))).trans h1.tab
  have hcs : ∀ j, s k + j < s (k + 1) → ∀ q, q < 8 → cs[j * 8 + q]? = (slCell (X (s k + j)))[q]? := by
    intro j hj q hq
    have e1 := hit.cellAt (j * 8 + q) (by omega)
    rw [cell_of_row wr g _ _ _ _ hgc] at e1
    rw [e1]
    exact flat_at _ 8 (fun _ => rfl) m j q (by omega) hq
  have hch : chCells s (upd ib k g) (upd cp k cp0) (k + 1) = chCells s ib cp k ++ chCell g m cp0 (s (k + 1)) := by
    rw [chCells_succ, upd_same, upd_same, hm]
    congr 1
    exact chCells_congr fun c hc => ⟨upd_other _ _ (by omega), upd_other _ _ (by omega)⟩
  obtain ⟨hg'B, cs', hg'c⟩ := own_block hown (g := g') rfl
  have hg't : g' ≠ tb := by
    intro e
    subst e
    rw [htab] at hg'c
    simp at hg'c
  refine ⟨?_, h.tbB, h.mbB, ?_, ?_, ?_⟩
  · refine ((h1.below.grown hgr h1.below.size (fun b hb => (own_block h1.row hb).1))).setCell h.tbB _
  · rw [heap_setCell_same w1 tb 1 _ _ _ htab]
    rfl
  · rw [hch]
    exact ownsRow_setCell_other hown (by simpa [Value.ownBlock] using hg't) _
  · intro c hc
    by_cases e : c = k
    · subst e
      rw [upd_same]
      refine ⟨cs, ?_, hcs⟩
      have hgt : g ≠ tb := by
        intro e
        subst e
        rw [h1.tab] at hgc1
        simp at hgc1
      rw [Below.heap_setCell _ _ _ _ hgt]
      exact (hgr.block _ (lt_heap hgc1) (hne _ _ _ hgc1 (by simp))).trans hgc1
    · rw [upd_other _ _ e]
      obtain ⟨cs2, e1, e2⟩ := h1.its c (by omega)
      refine ⟨cs2, ?_, e2⟩
      have hgt : ib c ≠ tb := by
        intro e
        rw [e, h1.tab] at e1
        simp at e1
      rw [Below.heap_setCell _ _ _ _ hgt]
      exact (hgr.block _ (lt_heap e1) (hne _ _ _ e1 (by simp))).trans e1

theorem Bl.tab_far (h : Bl w0 wr tb mb c2 c3 c4 c5 c6 s X k chv ib cp) {wa w1 : World} (ha : wr.grownBy wa none) (hgr : wa.grownBy w1 chv.ownBlock) : w1.cell? ⟨tb, 1, none⟩ = some chv ∧ w1.frozen? ⟨tb, 1, none⟩ = false := by
  have h1 := h.more ha
  have htab : w1.heap[tb]? = some (.cells #[.map (some mb), chv, c2, c3, c4, c5, c6] 56 (0, 0)) := (hgr.block _ (lt_heap h1.tab) (fun hv => by
    obtain ⟨_, cs', hc⟩ := own_block h1.row (g := tb) hv.symm
    rw [h1.tab] at hc
    simp at hc)).trans h1.tab
  exact ⟨by rw [cell_of_row w1 tb 1 _ _ _ htab]; rfl, frozen_of_row w1 tb 1 _ _ htab⟩

theorem map_far (h : Bl w0 wr tb mb c2 c3 c4 c5 c6 s X k chv ib cp) {wa w1 : World} (ha : wr.grownBy wa none) (hgr : wa.grownBy w1 chv.ownBlock) {i : Nat} {D : DataW Unit} (hm : wr.ownsMap Try.prog 9 uR mb i D) (v : Value) : (w1.setCell ⟨tb, 1, none⟩ v).ownsMap Try.prog 9 uR mb i D := by
  have h1 := h.more ha
  obtain ⟨es, cl, hmb, _⟩ := id hm
  have hmb' := (ha.block _ (lt_heap hmb) (by simp)).trans hmb
  refine ((hm.kept ha (by simp)).kept hgr (fun hv => ?_)).setCell (fun e => ?_) v
  · obtain ⟨_, cs', hc⟩ := own_block h1.row (g := mb) hv.symm
    rw [hmb'] at hc
    simp at hc
  · simp at e
    rw [e, h1.tab] at hmb'
    simp at hmb'

/-- what is built is a list -/
theorem Bl.lst {K n : Nat} (h : Bl w0 wr tb mb c2 c3 c4 c5 c6 s X K chv ib cp) (hK : K ≤ 4096) (hn : n ≤ 4096) (h0 : s 0 = 0) (hl : s K = n) (hst : ∀ k, k < K → s k < s (k + 1)) :
    ∃ a cK cb, Lst wr tb K n s X a cK cb ib cp := by
  have fin : ∀ a cK cb, chv = .slice a K cK → (K = 0 ∨ a = some ⟨cb, 0, none⟩) → Lst wr tb K n s X a cK cb ib cp := by
    intro a cK cb e1 e2
    have cells : ∀ k, k < K → ∀ q, q < 4 → wr.cell? ⟨cb, k * 4 + q, none⟩ = (chCell (ib k) (s (k + 1) - s k) (cp k) (s (k + 1)))[q]? := by
      intro k hk q hq
      rcases e2 with e2 | e2
      · omega
      · subst e2
        have hr := h.row
        rw [e1] at hr
        rw [hr.cellAt (k * 4 + q) (by omega)]
        exact flat_at _ 4 (fun _ => rfl) K k q hk hq
    refine ⟨hK, hn, h0, hl, hst, e2, by rw [(lies_tab h).2.1, e1], fun k hk => ?_, fun k hk => ?_, fun k j hk hj => ?_⟩
    · exact cells k hk 0 (by omega)
    · exact cells k hk 1 (by omega)
    · obtain ⟨cs, e3, e4⟩ := h.its k hk
      have hc : ∀ q, q < 8 → wr.cell? ⟨ib k, j * 8 + q, none⟩ = (slCell (X (s k + j)))[q]? := fun q hq => by
        rw [cell_of_row wr (ib k) _ _ _ _ e3]
        exact e4 j hj q hq
      exact ⟨hc 0 (by omega), hc 1 (by omega), hc 2 (by omega), hc 3 (by omega), hc 4 (by omega), hc 5 (by omega), hc 6 (by omega)⟩
  rcases h.row.2 with ⟨e1, e2⟩ | ⟨g, cap, cur, e1, _⟩
  · exact ⟨none, 0, 0, fin _ _ _ (by rw [e1, e2]) (.inl e2)⟩
  · exact ⟨_, cap, g, fin _ _ _ e1 (.inr rfl)⟩

end

end Go.Proofs.Qxb6615804a

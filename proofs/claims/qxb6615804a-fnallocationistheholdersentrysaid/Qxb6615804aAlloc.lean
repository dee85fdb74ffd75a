import Derived.Test.Qxb6615804aIdx
namespace Go.Proofs.Qxb6615804a
open Go.RowKit
set_option linter.unusedVariables false
set_option linter.unusedSimpArgs false

section
variable {w : World} {tb mb K n : Nat} {s : Nat → Nat} {X : Nat → Ent} {a : Option Addr} {cK cb : Nat} {ib cp : Nat → Nat}

set_option maxHeartbeats 1000000 in
/-- Table.index of a holder that is not there -/
theorem index_none (h : TabIs w tb mb K n s X a cK cb ib cp) (q : ByteArray) (hq : ∀ i, i < n → (X i).h ≠ q) (hsz : q.size ≤ maxLen) :
    Calls Try.prog 19 #[.pointer (some ⟨tb, 0, none⟩), .string q] w fun e w' => e = .returned (.tuple #[.int .i64 0, .bool false]) ∧ Below w.heap.size w w' := by
  obtain ⟨v, ps, hrun, hv⟩ := h.m.look_ok (Go.Maps.string_keyed Try.underlying9) Try.underlying47 (zero31 w) (uR_mk 0) (Go.WideMaps.keyOf_string_mk Try.underlying9 hsz)
  have e1 : Go.Maps.has (Dk X n) (.string q.data.toList) = false := Dk_none X n q hq
  rw [e1] at hrun
  have hv' : uR v = some (.lit (.int .u64 0), ps) := by rw [← Go.Maps.atKey_of_not_has e1 (.lit (.int .u64 0))]; exact hv
  obtain rfl := uR_inv hv'
  have c1 := h.c
  clear h hv hv' e1 hq
  go_enter Try.func19, Try.ntmps19
  go_wp2
  go_ret2
  exact ⟨rfl, (Below.refl _ _).alloc (Nat.le_refl _) _⟩

set_option maxHeartbeats 1000000 in
/-- Table.Allocation of a holder that is there -/
theorem alloc_some (h : TabIs w tb mb K n s X a cK cb ib cp) (i : Nat) (hi : i < n) (hup : ∀ i, i < n → 0 < i → (X (i - 1)).v < (X i).v) (hne : ∀ a b, a < b → b < n → (X a).h ≠ (X b).h) (hsz : (X i).h.size ≤ maxLen) :
    Calls Try.prog 12 #[.pointer (some ⟨tb, 0, none⟩), .string (X i).h] w fun e w' => e = .returned (.tuple #[entVal (X i), .bool true]) ∧ Below w.heap.size w w' := by
  have hB : Below w.heap.size w (w.alloc (.cells (entCells noEnt).toArray 35)) := (Below.refl _ _).alloc (Nat.le_refl _) _
  have h' := h.below hB
  have FI := index_some h' i hi hup hne hsz
  have H' := hidden h'
  have HB := hidden hB
  obtain ⟨blk, hblk⟩ : ∃ o, o = (w.alloc (.cells (entCells noEnt).toArray 35)).heap[w.heap.size]? := ⟨_, rfl⟩
  have R0 := hidden (heap_alloc_new w (.cells (entCells noEnt).toArray 35))
  clear h h' hB hup hne hblk
  go_enter Try.func12, Try.ntmps12
  go_wp2_with fail
  refine FI.mono ?_
  rintro e w1 ⟨rfl, hb⟩
  clear FI
  have h1 := TabIs.below H'.out hb
  obtain ⟨c, hc, hc1, hc2⟩ := h1.l.chunk hi
  obtain ⟨j, hj⟩ : ∃ j, i = s c + j := ⟨i - s c, by omega⟩
  have FA := at_any h1.l c j hc (by omega)
  rw [← hj] at FA
  have H1 := hidden h1
  have HB1 := hidden hb
  have R1 := hidden ((hb.block _ (lt_heap R0.out)).trans R0.out)
  have HJ := hidden hj
  have HC2 := hidden hc2
  clear h1 hb hj hc1 hc2
  go_wp2_with fail
  refine FA.mono ?_
  rintro e w2 ⟨rfl, hb2⟩
  clear FA
  have h2 := TabIs.below H1.out hb2
  obtain ⟨e0, e1, e2, e3, e4, e5, e6⟩ := h2.l.ent c j hc (by rw [← HJ.out]; exact HC2.out)
  rw [← HJ.out] at e0 e1 e3 e4
  have R2 := (hb2.block _ (lt_heap R1.out)).trans R1.out
  have f0 : ∀ o, w2.frozen? ⟨w.heap.size, o, none⟩ = false := fun o => frozen_of_row w2 w.heap.size o _ _ R2
  have g0 : w2.cell? ⟨w.heap.size, 0, none⟩ = some (.string ByteArray.empty) := by rw [cell_of_row w2 w.heap.size 0 _ _ _ R2]; rfl
  have g1 : w2.cell? ⟨w.heap.size, 1, none⟩ = some (.string ByteArray.empty) := by rw [cell_of_row w2 w.heap.size 1 _ _ _ R2]; rfl
  have g2 : w2.cell? ⟨w.heap.size, 2, none⟩ = some (.int .u64 0) := by rw [cell_of_row w2 w.heap.size 2 _ _ _ R2]; rfl
  have g3 : w2.cell? ⟨w.heap.size, 3, none⟩ = some (.int .u64 0) := by rw [cell_of_row w2 w.heap.size 3 _ _ _ R2]; rfl
  have g4 : w2.cell? ⟨w.heap.size, 4, none⟩ = some (.int .i64 0) := by rw [cell_of_row w2 w.heap.size 4 _ _ _ R2]; rfl
  have g5 : w2.cell? ⟨w.heap.size, 5, none⟩ = some (.pointer none) := by rw [cell_of_row w2 w.heap.size 5 _ _ _ R2]; rfl
  have g6 : w2.cell? ⟨w.heap.size, 6, none⟩ = some (.pointer none) := by rw [cell_of_row w2 w.heap.size 6 _ _ _ R2]; rfl
  have HB2 := hidden hb2
  clear h2 hb2 R2
  go_wp2
  refine bodyPost_ret (v := .tuple #[entVal (X i), .bool true]) (by simp [results, Try.results12, go_sem, entVal, g0, g1, g2, g3, g4, g5, g6]) rfl ⟨rfl, ?_⟩
  exact ((((((((below_more (below_more HB.out HB1.out) HB2.out).setCell (Nat.le_refl _) _).setCell (Nat.le_refl _) _).setCell (Nat.le_refl _) _).setCell (Nat.le_refl _) _).setCell (Nat.le_refl _) _).setCell (Nat.le_refl _) _).setCell (Nat.le_refl _) _)

/-- Table.Allocation of a holder that is not there -/
theorem alloc_none (h : TabIs w tb mb K n s X a cK cb ib cp) (q : ByteArray) (hq : ∀ i, i < n → (X i).h ≠ q) (hsz : q.size ≤ maxLen) :
    Calls Try.prog 12 #[.pointer (some ⟨tb, 0, none⟩), .string q] w fun e w' => e = .returned (.tuple #[entVal noEnt, .bool false]) ∧ Below w.heap.size w w' := by
  have hB : Below w.heap.size w (w.alloc (.cells (entCells noEnt).toArray 35)) := (Below.refl _ _).alloc (Nat.le_refl _) _
  have h' := h.below hB
  have FI := index_none h' q hq hsz
  have HB := hidden hB
  have R0 := hidden (heap_alloc_new w (.cells (entCells noEnt).toArray 35))
  clear h h' hB hq
  go_enter Try.func12, Try.ntmps12
  go_wp2_with fail
  refine FI.mono ?_
  rintro e w2 ⟨rfl, hb⟩
  clear FI
  have HB1 := hidden hb
  have R2 := (hb.block _ (lt_heap R0.out)).trans R0.out
  have f0 : ∀ o, w2.frozen? ⟨w.heap.size, o, none⟩ = false := fun o => frozen_of_row w2 w.heap.size o _ _ R2
  have g0 : w2.cell? ⟨w.heap.size, 0, none⟩ = some (.string ByteArray.empty) := by rw [cell_of_row w2 w.heap.size 0 _ _ _ R2]; rfl
  have g1 : w2.cell? ⟨w.heap.size, 1, none⟩ = some (.string ByteArray.empty) := by rw [cell_of_row w2 w.heap.size 1 _ _ _ R2]; rfl
  have g2 : w2.cell? ⟨w.heap.size, 2, none⟩ = some (.int .u64 0) := by rw [cell_of_row w2 w.heap.size 2 _ _ _ R2]; rfl
  have g3 : w2.cell? ⟨w.heap.size, 3, none⟩ = some (.int .u64 0) := by rw [cell_of_row w2 w.heap.size 3 _ _ _ R2]; rfl
  have g4 : w2.cell? ⟨w.heap.size, 4, none⟩ = some (.int .i64 0) := by rw [cell_of_row w2 w.heap.size 4 _ _ _ R2]; rfl
  have g5 : w2.cell? ⟨w.heap.size, 5, none⟩ = some (.pointer none) := by rw [cell_of_row w2 w.heap.size 5 _ _ _ R2]; rfl
  have g6 : w2.cell? ⟨w.heap.size, 6, none⟩ = some (.pointer none) := by rw [cell_of_row w2 w.heap.size 6 _ _ _ R2]; rfl
  clear hb R2
  go_wp2
  refine bodyPost_ret (v := .tuple #[entVal noEnt, .bool false]) (by simp [results, Try.results12, go_sem, entVal, noEnt, g0, g1, g2, g3, g4, g5, g6]; rfl) rfl ⟨rfl, ?_⟩
  exact (((((((((below_more HB.out HB1.out)).setCell (Nat.le_refl _) _).setCell (Nat.le_refl _) _).setCell (Nat.le_refl _) _).setCell (Nat.le_refl _) _).setCell (Nat.le_refl _) _).setCell (Nat.le_refl _) _).setCell (Nat.le_refl _) _)

end

end Go.Proofs.Qxb6615804a

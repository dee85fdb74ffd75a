import Derived.Test.Qxb6615804aAlloc
namespace Go.Proofs.Qxb6615804a
open Go.RowKit
set_option linter.unusedVariables false
set_option linter.unusedSimpArgs false

set_option maxHeartbeats 1000000 in
/-- zzEntryAt -/
theorem entryAt_any (w : World) (aH aT aV aB : Option Addr) (n k1 k2 k3 k4 i : Nat) (X : Nat → Ent) (hi : i < n) (hn : n ≤ 4096)
    (hH : CRow w aH n fun i => .string (X i).h) (hT : CRow w aT n fun i => .string (X i).t) (hV : CRow w aV n fun i => .int .u64 ((X i).v : Int)) (hB : CRow w aB n fun i => .int .i64 (X i).b) :
    Calls Try.prog 17 #[.slice aH n k1, .slice aT n k2, .slice aV n k3, .slice aB n k4, .int .i64 (i : Int)] w fun e w' => e = .returned (entVal (X i)) ∧ Below w.heap.size w w' := by
  obtain ⟨bH, oH, rfl, lH, cH⟩ := CRow.pick hH hi
  obtain ⟨bT, oT, rfl, lT, cT⟩ := CRow.pick hT hi
  obtain ⟨bV, oV, rfl, lV, cV⟩ := CRow.pick hV hi
  obtain ⟨bB, oB, rfl, lB, cB⟩ := CRow.pick hB hi
  clear hH hT hV hB
  have hiz : (i : Int) < (n : Int) := by omega
  unfold entVal
  generalize X i = x at *
  go_enter Try.func17, Try.ntmps17
  go_wp2
  go_region_held3 (fun W => W.cell? ⟨bH, oH + i, none⟩ = some (.string x.h) ∧ W.cell? ⟨bT, oT + i, none⟩ = some (.string x.t) ∧ W.cell? ⟨bV, oV + i, none⟩ = some (.int .u64 (x.v : Int)) ∧ W.cell? ⟨bB, oB + i, none⟩ = some (.int .i64 x.b)) (go_keep)
    (first | (go_at_call 15; refine (unitOf_any _ _).mono ?_; rintro e w' ⟨rfl, rfl⟩))
  all_goals go_wp2
  refine bodyPost_ret (v := .agg #[.string x.h, .string x.t, .int .u64 0, .int .u64 (x.v : Int), .int .i64 x.b, .pointer none, .pointer none]) (by simp [results, Try.results17, go_sem]) rfl ⟨rfl, ?_⟩
  exact (((Below.refl _ _).alloc (by simp) _).alloc (by simp) _).drew

/-- what zzEntry answers -/
def EntR (X : Nat → Ent) (n : Nat) (q : ByteArray) (e : Ending) : Prop :=
  (∃ i, i < n ∧ (X i).h = q ∧ e = .returned (.tuple #[entVal (X i), .bool true])) ∨ ((∀ i, i < n → (X i).h ≠ q) ∧ e = .returned (.tuple #[entVal noEnt, .bool false]))

set_option maxHeartbeats 1000000 in
/-- zzEntry -/
theorem entry_any (w : World) (aH aT aV aB : Option Addr) (n k1 k2 k3 k4 : Nat) (X : Nat → Ent) (q : ByteArray) (hn : n ≤ 4096)
    (hH : CRow w aH n fun i => .string (X i).h) (hT : CRow w aT n fun i => .string (X i).t) (hV : CRow w aV n fun i => .int .u64 ((X i).v : Int)) (hB : CRow w aB n fun i => .int .i64 (X i).b) :
    Calls Try.prog 10 #[.slice aH n k1, .slice aT n k2, .slice aV n k3, .slice aB n k4, .string q] w fun e w' => EntR X n q e ∧ Below w.heap.size w w' := by
  have hA : Below w.heap.size w (w.alloc (.cells (entCells noEnt).toArray 35)) := (Below.refl _ _).alloc (Nat.le_refl _) _
  have hH' := hH.below hA (Nat.le_refl _)
  have FE := fun (i : Nat) (hi : i < n) => entryAt_any (w.alloc (.cells (entCells noEnt).toArray 35)) aH aT aV aB n k1 k2 k3 k4 i X hi hn hH' (hT.below hA (Nat.le_refl _)) (hV.below hA (Nat.le_refl _)) (hB.below hA (Nat.le_refl _))
  have HH := hidden hH'
  have FEH := hidden FE
  have HA := hidden hA
  have R0 := hidden (heap_alloc_new w (.cells (entCells noEnt).toArray 35))
  clear hH hH' hT hV hB FE hA
  go_enter Try.func10, Try.ntmps10
  go_wp2
  go_loopw [12] (fun v12 wr => ∃ i : Nat, i ≤ n ∧ v12 = .int .i64 (i : Int) ∧ (∀ j, j < i → (X j).h ≠ q) ∧ Hid (wr = w.alloc (.cells (entCells noEnt).toArray 35))) (fun v12 _ => n - (intOf v12).toNat)
  case atStart => exact ⟨0, Nat.zero_le _, rfl, fun j hj => absurd hj (by omega), hidden rfl⟩
  case round =>
    obtain ⟨i, hi, rfl, hno, HW⟩ := hrel
    have HNO := hidden hno
    clear hno
    rw [← HW.out] at HH FEH HA R0
    by_cases hlt : i < n
    · obtain ⟨bH, oH, rfl, _, cH⟩ := CRow.pick HH.out hlt
      have hiz : (i : Int) < (n : Int) := by omega
      by_cases hs : (X i).h = q
      · have hsb : ((X i).h.toList == q.toList) = true := by simp [hs]
        have HS := hidden hs
        have FI := FEH.out i hlt
        clear hs FEH
        go_wp2_with fail
        refine FI.mono ?_
        rintro e w2 ⟨rfl, hb⟩
        clear FI
        have R2 := (hb.block _ (lt_heap R0.out)).trans R0.out
        have f0 : ∀ o, w2.frozen? ⟨w.heap.size, o, none⟩ = false := fun o => frozen_of_row w2 w.heap.size o _ _ R2
        have g0 : w2.cell? ⟨w.heap.size, 0, none⟩ = some (.string ByteArray.empty) := by rw [cell_of_row w2 w.heap.size 0 _ _ _ R2]; rfl
        have g1 : w2.cell? ⟨w.heap.size, 1, none⟩ = some (.string ByteArray.empty) := by rw [cell_of_row w2 w.heap.size 1 _ _ _ R2]; rfl
        have g2 : w2.cell? ⟨w.heap.size, 2, none⟩ = some (.int .u64 0) := by rw [cell_of_row w2 w.heap.size 2 _ _ _ R2]; rfl
        have g3 : w2.cell? ⟨w.heap.size, 3, none⟩ = some (.int .u64 0) := by rw [cell_of_row w2 w.heap.size 3 _ _ _ R2]; rfl
        have g4 : w2.cell? ⟨w.heap.size, 4, none⟩ = some (.int .i64 0) := by rw [cell_of_row w2 w.heap.size 4 _ _ _ R2]; rfl
        have g5 : w2.cell? ⟨w.heap.size, 5, none⟩ = some (.pointer none) := by rw [cell_of_row w2 w.heap.size 5 _ _ _ R2]; rfl
        have g6 : w2.cell? ⟨w.heap.size, 6, none⟩ = some (.pointer none) := by rw [cell_of_row w2 w.heap.size 6 _ _ _ R2]; rfl
        clear R2
        have HB := hidden hb
        clear hb
        unfold entVal
        go_wp2
        refine bodyPost_ret (v := .tuple #[entVal (X i), .bool true]) (by simp [results, Try.results10, go_sem, entVal, g0, g1, g2, g3, g4, g5, g6]) rfl ⟨.inl ⟨i, hlt, HS.out, rfl⟩, ?_⟩
        exact (((((((((below_more HA.out HB.out)).setCell (Nat.le_refl _) _).setCell (Nat.le_refl _) _).setCell (Nat.le_refl _) _).setCell (Nat.le_refl _) _).setCell (Nat.le_refl _) _).setCell (Nat.le_refl _) _).setCell (Nat.le_refl _) _)
      · have hsb : ((X i).h.toList == q.toList) = false := bytes_ne hs
        have HS := hidden hs
        clear hs
        go_wp2
        go_roundw
        case rel =>
          refine ⟨i + 1, by omega, by go_num, fun j hj => ?_, HW⟩
          by_cases e : j = i
          · subst e; exact HS.out
          · exact HNO.out j (by omega)
        case measure => simp [intOf]; omega
    · obtain rfl : i = n := by omega
      have hiz : decide ((i : Int) < (i : Int)) = false := by simp
      have R2 := R0.out
      have f0 : ∀ o, wr.frozen? ⟨w.heap.size, o, none⟩ = false := fun o => frozen_of_row wr w.heap.size o _ _ R2
      have g0 : wr.cell? ⟨w.heap.size, 0, none⟩ = some (.string ByteArray.empty) := by rw [cell_of_row wr w.heap.size 0 _ _ _ R2]; rfl
      have g1 : wr.cell? ⟨w.heap.size, 1, none⟩ = some (.string ByteArray.empty) := by rw [cell_of_row wr w.heap.size 1 _ _ _ R2]; rfl
      have g2 : wr.cell? ⟨w.heap.size, 2, none⟩ = some (.int .u64 0) := by rw [cell_of_row wr w.heap.size 2 _ _ _ R2]; rfl
      have g3 : wr.cell? ⟨w.heap.size, 3, none⟩ = some (.int .u64 0) := by rw [cell_of_row wr w.heap.size 3 _ _ _ R2]; rfl
      have g4 : wr.cell? ⟨w.heap.size, 4, none⟩ = some (.int .i64 0) := by rw [cell_of_row wr w.heap.size 4 _ _ _ R2]; rfl
      have g5 : wr.cell? ⟨w.heap.size, 5, none⟩ = some (.pointer none) := by rw [cell_of_row wr w.heap.size 5 _ _ _ R2]; rfl
      have g6 : wr.cell? ⟨w.heap.size, 6, none⟩ = some (.pointer none) := by rw [cell_of_row wr w.heap.size 6 _ _ _ R2]; rfl
      clear R2
      go_wp2
      refine bodyPost_ret (v := .tuple #[entVal noEnt, .bool false]) (by simp [results, Try.results10, go_sem, entVal, noEnt, g0, g1, g2, g3, g4, g5, g6]; rfl) rfl ⟨.inr ⟨HNO.out, rfl⟩, ?_⟩
      exact ((((((((HA.out).setCell (Nat.le_refl _) _).setCell (Nat.le_refl _) _).setCell (Nat.le_refl _) _).setCell (Nat.le_refl _) _).setCell (Nat.le_refl _) _).setCell (Nat.le_refl _) _).setCell (Nat.le_refl _) _)

end Go.Proofs.Qxb6615804a

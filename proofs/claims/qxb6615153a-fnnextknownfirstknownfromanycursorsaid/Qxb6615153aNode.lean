import Derived.Test.Qxb6615153aFit
namespace Go.Proofs.Qxb6615153a
open Go.RowKit
set_option linter.unusedVariables false
set_option linter.unusedSimpArgs false

theorem Try.info94 : (Try.prog.info? 94).map (fun i => (i.zero, i.size, i.bytes)) = some (some (.pointer none), 1, 8) := by kernel_rfl
theorem Try.info132 : (Try.prog.info? 132).map (fun i => (i.zero, i.size, i.bytes)) = some (some (.int .u32 0), 1, 4) := by kernel_rfl

/-- a node lies in block g: its marks, its items, its next -/
def Nd (w : World) (g : Nat) (vM vI vN : Value) : Prop :=
  w.heap[g]? = some (.cells #[.pointer none, .int .i64 0, .slice none 0 0, .slice none 0 0, .int .u64 0, .int .u64 0, .int .u64 0, .int .u64 0, vM, vI, vN, .int .i64 0] 131 (0, 0))

theorem Nd.cells {w : World} {g : Nat} {vM vI vN : Value} (h : Nd w g vM vI vN) :
    w.cell? ⟨g, 8, none⟩ = some vM ∧ w.cell? ⟨g, 9, none⟩ = some vI ∧ w.cell? ⟨g, 10, none⟩ = some vN ∧ ∀ j, w.frozen? ⟨g, j, none⟩ = false := by
  unfold Nd at h
  simp [World.cell?, World.frozen?, h]

theorem Nd.setM {w : World} {g : Nat} {vM vI vN : Value} (h : Nd w g vM vI vN) (v : Value) : Nd (w.setCell ⟨g, 8, none⟩ v) g v vI vN := by
  unfold Nd at h ⊢
  simp [World.setCell, Array.getElem?_modify, h]
theorem Nd.setI {w : World} {g : Nat} {vM vI vN : Value} (h : Nd w g vM vI vN) (v : Value) : Nd (w.setCell ⟨g, 9, none⟩ v) g vM v vN := by
  unfold Nd at h ⊢
  simp [World.setCell, Array.getElem?_modify, h]

theorem leaf42 (w : World) : Calls Try.prog 42 #[] w fun e w' => e = .returned (.pointer (some ⟨w.heap.size, 0, none⟩)) ∧ Nd w' w.heap.size (.slice none 0 0) (.slice none 0 0) (.pointer none) ∧ Below w.heap.size w w' := by
  go_enter Try.func42, Try.ntmps42
  go_wp2
  go_ret
  exact ⟨rfl, heap_alloc_new w _, (Below.refl _ _).alloc (Nat.le_refl _) _⟩

/-- an item lies in block g -/
def It (w : World) (g r : Nat) (x y : Int) : Prop :=
  w.cell? ⟨g, 1, none⟩ = some (.pointer (some ⟨r, 0, none⟩)) ∧ w.cell? ⟨g, 2, none⟩ = some (.int .i32 x) ∧ w.cell? ⟨g, 5, none⟩ = some (.int .i32 y) ∧ w.frozen? ⟨g, 5, none⟩ = false

theorem item43 (r : Nat) (x y : Int) (w : World) : Calls Try.prog 43 #[.pointer (some ⟨r, 0, none⟩), .int .i32 x, .int .i32 y] w fun e w' => e = .returned (.pointer (some ⟨w.heap.size, 0, none⟩)) ∧ It w' w.heap.size r x y ∧ Below w.heap.size w w' ∧ w'.heap.size = w.heap.size + 1 := by
  go_enter Try.func43, Try.ntmps43
  go_wp2
  go_ret
  refine ⟨rfl, ?_, (Below.refl _ _).alloc (Nat.le_refl _) _, by simp⟩
  have h := heap_alloc_new w (Obj.cells #[Value.string { data := #[] }, Value.pointer (some { block := r, off := 0 }), Value.int IntKind.i32 x,
            Value.int IntKind.i32 0, Value.int IntKind.i32 0, Value.int IntKind.i32 y, Value.bool false,
            Value.bool false, Value.bool false, Value.bool false, Value.int IntKind.i32 0, Value.pointer none,
            Value.pointer none] 96)
  refine ⟨?_, ?_, ?_, ?_⟩
  · simp only [World.cell?]; rw [h]; rfl
  · simp only [World.cell?]; rw [h]; rfl
  · simp only [World.cell?]; rw [h]; rfl
  · simp only [World.frozen?]; rw [h]; rfl

theorem run28 (w : World) : Calls Try.prog 28 #[] w fun e w' => e = .returned (.pointer (some ⟨w.heap.size, 0, none⟩)) ∧ Below w.heap.size w w' ∧ w'.heap.size = w.heap.size + 1 := by
  go_enter Try.func28, Try.ntmps28
  go_wp2
  go_ret
  exact ⟨rfl, (Below.refl _ _).alloc (Nat.le_refl _) _, by simp⟩

theorem next46 (g : Nat) (nx : Option Addr) (v : Value) (w : World) (hc : w.cell? ⟨g, 10, none⟩ = some v) (hf : w.frozen? ⟨g, 10, none⟩ = false) :
    Calls Try.prog 46 #[.pointer (some ⟨g, 0, none⟩), .pointer nx] w fun e w' => e = .returned (.tuple #[]) ∧ w' = w.setCell ⟨g, 10, none⟩ (.pointer nx) := by
  go_enter Try.func46, Try.ntmps46
  go_wp2
  go_end0
  exact ⟨rfl, rfl⟩

theorem idx48 (g : Nat) (y : Int) (w : World) (hc : w.cell? ⟨g, 5, none⟩ = some (.int .i32 y)) :
    Calls Try.prog 48 #[.pointer (some ⟨g, 0, none⟩)] w fun e w' => e = .returned (.int .i32 y) ∧ w' = w := by
  go_enter Try.func48, Try.ntmps48
  go_wp2
  go_ret
  exact ⟨rfl, rfl⟩

set_option maxHeartbeats 400000 in
theorem addItem44 (g base : Nat) (vM vI vN : Value) (n : Nat) (xs : List Value) (p : Nat) (w : World) (hw : Nd w g vM vI vN)
    (hown : w.ownsRow base 94 1 vI n xs) (hbase : base ≤ w.heap.size) (hn : n + 1 ≤ 1000000) :
    Calls Try.prog 44 #[.pointer (some ⟨g, 0, none⟩), .pointer (some ⟨p, 0, none⟩)] w fun e w' => e = .returned (.tuple #[]) ∧ ∃ vI', Nd w' g vM vI' vN ∧
      w'.ownsRow base 94 1 vI' (n + 1) (xs ++ [.pointer (some ⟨p, 0, none⟩)]) ∧ (vI'.ownBlock = vI.ownBlock ∨ vI'.ownBlock = some (w.heap.size + 1)) ∧ Kept (fun k => k = g ∨ vI.ownBlock = some k) w w' := by
  obtain ⟨i0, hi, hz0, hz1, hz2⟩ := info_parts Try.info94
  obtain ⟨ao, c, hv, _⟩ := slice_of_own hown
  subst hv
  have hc1 := hw.cells.2.1
  have hgl : g < w.heap.size := lt_of_block hw
  have hne : (Value.slice ao n c).ownBlock ≠ some g := by
    rcases hown.2 with ⟨h, _⟩ | ⟨g', cap, cur, h, _, hh, _⟩
    · simp at h; simp [Value.ownBlock, h]
    · rw [h]; intro e
      simp [Value.ownBlock] at e
      subst e
      rw [hw] at hh; simp at hh
  have hsz : (w.alloc (.cells #[.pointer (some ⟨p, 0, none⟩)] 94)).heap.size = w.heap.size + 1 := by simp
  go_enter Try.func44, Try.ntmps44
  go_wp2_with (at_builtin; refine wpList_append_own_src _ rfl (.tmp 8) (.tmp 10) 101 101 rfl base 94 i0 (.pointer none) 1 8 Try.underlying101 hi hz0 hz1 hz2 rfl _ n xs rfl (hown.alloc _) _ 1 [.pointer (some ⟨p, 0, none⟩)] rfl (Src.ofSlice _ Try.underlying101 ⟨w.heap.size, 0, none⟩ 1 1 _ rfl (cell_one_new _ _ _) (by intro u hu; simp at hu; subst hu; rfl)) (by unfold maxLen; omega) (by omega) (by simp; omega) ?_)
  intro v' w1 hown' hgrow hat
  have hw1 : Nd w1 g vM (.slice ao n c) vN := (hgrow.block g (by simp; omega) (Ne.symm hne)).trans ((Below.heap_alloc w _ g hgl).trans hw)
  have hne' : v'.ownBlock ≠ some g := by
    rcases hat with h | h
    · rw [h]; exact hne
    · rw [h]; simp; omega
  obtain ⟨ao', c', hv', _⟩ := slice_of_own hown'
  have hc1' := hw1.cells.2.1
  have hf1' := hw1.cells.2.2.2 9
  have HW : Hid _ := hw1.setI v'
  have HO : Hid _ := ownsRow_setCell_other hown' (a := ⟨g, 9, none⟩) hne' v'
  have HK : Hid (Kept (fun k => k = g ∨ (Value.slice ao n c).ownBlock = some k) w (w1.setCell ⟨g, 9, none⟩ v')) :=
    ⟨hgrow.os, hgrow.tape, hgrow.output, by have := hgrow.size; simp [World.setCell] at this ⊢; omega, fun k hk hS => by
      rw [Below.heap_setCell _ _ _ _ (fun e => hS (.inl e))]
      exact (hgrow.block k (by simp; omega) (fun e => hS (.inr e.symm))).trans (Below.heap_alloc w _ k hk)⟩
  have HA : Hid (v'.ownBlock = (Value.slice ao n c).ownBlock ∨ v'.ownBlock = some (w.heap.size + 1)) := hat
  clear hat hgrow hown hown' hw hw1 hne hne' hc1 hsz
  subst hv'
  go_wp2
  go_end0
  exact ⟨rfl, _, HW.out, HO.out, HA.out, HK.out⟩

set_option maxHeartbeats 400000 in
theorem addMark45 (g base : Nat) (vM vI vN : Value) (n : Nat) (xs : List Value) (p : Int) (w : World) (hw : Nd w g vM vI vN)
    (hown : w.ownsRow base 132 1 vM n xs) (hbase : base ≤ w.heap.size) (hn : n + 1 ≤ 1000000) :
    Calls Try.prog 45 #[.pointer (some ⟨g, 0, none⟩), .int .u32 p] w fun e w' => e = .returned (.tuple #[]) ∧ ∃ vM', Nd w' g vM' vI vN ∧
      w'.ownsRow base 132 1 vM' (n + 1) (xs ++ [.int .u32 p]) ∧ (vM'.ownBlock = vM.ownBlock ∨ vM'.ownBlock = some (w.heap.size + 1)) ∧ Kept (fun k => k = g ∨ vM.ownBlock = some k) w w' := by
  obtain ⟨i0, hi, hz0, hz1, hz2⟩ := info_parts Try.info132
  obtain ⟨ao, c, hv, _⟩ := slice_of_own hown
  subst hv
  have hc1 := hw.cells.1
  have hgl : g < w.heap.size := lt_of_block hw
  have hne : (Value.slice ao n c).ownBlock ≠ some g := by
    rcases hown.2 with ⟨h, _⟩ | ⟨g', cap, cur, h, _, hh, _⟩
    · simp at h; simp [Value.ownBlock, h]
    · rw [h]; intro e
      simp [Value.ownBlock] at e
      subst e
      rw [hw] at hh; simp at hh
  have hsz : (w.alloc (.cells #[.int .u32 p] 132)).heap.size = w.heap.size + 1 := by simp
  go_enter Try.func45, Try.ntmps45
  go_wp2_with (at_builtin; refine wpList_append_own_src _ rfl (.tmp 8) (.tmp 10) 129 129 rfl base 132 i0 (.int .u32 0) 1 4 Try.underlying129 hi hz0 hz1 hz2 rfl _ n xs rfl (hown.alloc _) _ 1 [.int .u32 p] rfl (Src.ofSlice _ Try.underlying129 ⟨w.heap.size, 0, none⟩ 1 1 _ rfl (cell_one_new _ _ _) (by intro u hu; simp at hu; subst hu; rfl)) (by unfold maxLen; omega) (by omega) (by simp; omega) ?_)
  intro v' w1 hown' hgrow hat
  have hw1 : Nd w1 g (.slice ao n c) vI vN := (hgrow.block g (by simp; omega) (Ne.symm hne)).trans ((Below.heap_alloc w _ g hgl).trans hw)
  have hne' : v'.ownBlock ≠ some g := by
    rcases hat with h | h
    · rw [h]; exact hne
    · rw [h]; simp; omega
  obtain ⟨ao', c', hv', _⟩ := slice_of_own hown'
  have hc1' := hw1.cells.1
  have hf1' := hw1.cells.2.2.2 8
  have HW : Hid _ := hw1.setM v'
  have HO : Hid _ := ownsRow_setCell_other hown' (a := ⟨g, 8, none⟩) hne' v'
  have HK : Hid (Kept (fun k => k = g ∨ (Value.slice ao n c).ownBlock = some k) w (w1.setCell ⟨g, 8, none⟩ v')) :=
    ⟨hgrow.os, hgrow.tape, hgrow.output, by have := hgrow.size; simp [World.setCell] at this ⊢; omega, fun k hk hS => by
      rw [Below.heap_setCell _ _ _ _ (fun e => hS (.inl e))]
      exact (hgrow.block k (by simp; omega) (fun e => hS (.inr e.symm))).trans (Below.heap_alloc w _ k hk)⟩
  have HA : Hid (v'.ownBlock = (Value.slice ao n c).ownBlock ∨ v'.ownBlock = some (w.heap.size + 1)) := hat
  clear hat hgrow hown hown' hw hw1 hne hne' hc1 hsz
  subst hv'
  go_wp2
  go_end0
  exact ⟨rfl, _, HW.out, HO.out, HA.out, HK.out⟩
end Go.Proofs.Qxb6615153a

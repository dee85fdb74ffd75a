import Derived.Test.Qxb6615153aRows
import Derived.Test.Qxb6615153aAppend
import Derived.Test.Qxb6615153aCopy
import Derived.WalkKit
import Derived.WalkSpells
import Derived.Below
import Derived.Deep.OwnRows
import Derived.Deep.QuietTactic
import Derived.BigQuiet
namespace Go.Proofs.Qxb6615153a
open Go.RowKit

/-- the writer lies in block g -/
def Wr (w : World) (g : Nat) (v0 v1 : Value) (c2 c3 c4 c5 c6 c7 : Int) : Prop :=
  w.heap[g]? = some (.cells #[v0, v1, .int .i64 c2, .int .i64 c3, .int .i64 c4, .int .i64 c5, .int .i64 c6, .int .i64 c7] 71 (0, 0))

theorem Wr.cells {w : World} {g : Nat} {v0 v1 : Value} {c2 c3 c4 c5 c6 c7 : Int} (h : Wr w g v0 v1 c2 c3 c4 c5 c6 c7) :
    w.cell? ⟨g, 0, none⟩ = some v0 ∧ w.cell? ⟨g, 1, none⟩ = some v1 ∧ w.cell? ⟨g, 2, none⟩ = some (.int .i64 c2) ∧ w.cell? ⟨g, 3, none⟩ = some (.int .i64 c3) ∧ w.cell? ⟨g, 4, none⟩ = some (.int .i64 c4) ∧
    w.cell? ⟨g, 5, none⟩ = some (.int .i64 c5) ∧ w.cell? ⟨g, 6, none⟩ = some (.int .i64 c6) ∧ w.cell? ⟨g, 7, none⟩ = some (.int .i64 c7) ∧ w.frozen? ⟨g, 1, none⟩ = false := by
  unfold Wr at h
  simp [World.cell?, World.frozen?, h]

theorem Wr.set {w : World} {g : Nat} {v0 v1 : Value} {c2 c3 c4 c5 c6 c7 : Int} (h : Wr w g v0 v1 c2 c3 c4 c5 c6 c7) (v : Value) : Wr (w.setCell ⟨g, 1, none⟩ v) g v0 v c2 c3 c4 c5 c6 c7 := by
  unfold Wr at h ⊢
  simp [World.setCell, Array.getElem?_modify, h]

set_option maxHeartbeats 400000 in
theorem cp_any (g base : Nat) (v0 v1 : Value) (c2 c3 c4 c5 c6 c7 : Int) (n : Nat) (xs : List Value) (s : ByteArray) (w : World) (hw : Wr w g v0 v1 c2 c3 c4 c5 c6 c7)
    (hown : w.ownsRow base 5 1 v1 n xs) (hbase : base ≤ w.heap.size) (hn : n + s.size ≤ 1000000000) :
    Calls Try.prog 39 #[.pointer (some ⟨g, 0, none⟩), .string s] w fun e w' => e = .returned (.tuple #[]) ∧ ∃ v1', Wr w' g v0 v1' c2 c3 c4 c5 c6 c7 ∧
      w'.ownsRow base 5 1 v1' (n + s.size) (xs ++ byteCells s) ∧ (v1'.ownBlock = v1.ownBlock ∨ v1'.ownBlock = some w.heap.size) ∧ Kept (fun k => k = g ∨ v1.ownBlock = some k) w w' := by
  obtain ⟨i0, hi, hz0, hz1, hz2⟩ := info_parts Try.info5
  obtain ⟨ao, c, hv, _⟩ := slice_of_own hown
  subst hv
  have hc1 := hw.cells.2.1
  have hgl : g < w.heap.size := lt_of_block hw
  have hne : (Value.slice ao n c).ownBlock ≠ some g := by
    rcases hown.2 with ⟨h, _⟩ | ⟨g', cap, cur, h, _, hh, _⟩
    · simp at h; simp [Value.ownBlock, h]
    · rw [h]; intro e
      simp [Value.ownBlock] at e
      subst e
      rw [hw] at hh; simp at hh
  go_enter Try.func39, Try.ntmps39
  go_wp2_with (at_builtin; refine wpList_append_own_src _ rfl (.tmp 8) (.tmp 9) 22 9 rfl base 5 i0 (.int .u8 0) 1 1 Try.underlying22 hi hz0 hz1 hz2 rfl _ n xs rfl hown _ s.size (byteCells s) rfl (Src.ofString _ Try.underlying9 s) (by unfold maxLen; omega) (by omega) hbase ?_)
  intro v' w1 hown' hgrow hat
  have hw1 : Wr w1 g v0 (.slice ao n c) c2 c3 c4 c5 c6 c7 := (hgrow.block g hgl (Ne.symm hne)).trans hw
  have hne' : v'.ownBlock ≠ some g := by
    rcases hat with h | h
    · rw [h]; exact hne
    · rw [h]; simp; omega
  obtain ⟨ao', c', hv', _⟩ := slice_of_own hown'
  have hc1' := hw1.cells.2.1
  have hf1' := hw1.cells.2.2.2.2.2.2.2.2
  have HW : Hid _ := hw1.set v'
  have HO : Hid _ := ownsRow_setCell_other hown' (a := ⟨g, 1, none⟩) hne' v'
  have HK : Hid (Kept (fun k => k = g ∨ (Value.slice ao n c).ownBlock = some k) w (w1.setCell ⟨g, 1, none⟩ v')) :=
    ⟨hgrow.os, hgrow.tape, hgrow.output, by simpa [World.setCell] using hgrow.size, fun k hk hS => by
      rw [Below.heap_setCell _ _ _ _ (fun e => hS (.inl e))]
      exact hgrow.block k hk (fun e => hS (.inr e.symm))⟩
  have HA : Hid _ := hat
  clear hat hgrow hown hown' hw hw1 hne hne' hc1
  subst hv'
  go_wp2
  go_end0
  exact ⟨rfl, _, HW.out, HO.out, HA.out, HK.out⟩

end Go.Proofs.Qxb6615153a

import Derived.Test.Qxb6615804aTable
import Derived.Laws.CopyOwn
import Derived.Laws.Cover3
import Derived.Deep.Cut
namespace Go.Proofs.Qxb6615804a
open Go.RowKit
set_option linter.unusedVariables false
set_option linter.unusedSimpArgs false

/-- a slice of n values f that lies behind w0 -/
def Cp (w0 wx : World) (n : Nat) (f : Nat → Value) (v : Value) : Prop := ∃ a c, v = .slice a n c ∧ CRow wx a n f ∧ Below w0.heap.size w0 wx

theorem wpList_copy_made {ops : Array Oper} {rest : List Oper} {o : Oper} {a : Act} {Q : Exit → Act → World → Prop} (hgd : o.guard = none) (d s : Operand) (T e : TypeId)
    (ho : o.op = .call { callee := .builtin .copy, args := #[d, s], argTypes := #[T, T] }) (hu : Try.prog.underlying T = some (.slice e)) (hsz : (Try.prog.info? e).map (·.size) = some 1)
    (W : World) (n c : Nat) (ap : Option Addr) (f : Nat → Value) (hrow : CRow W ap n f) (hone : ∀ i, (f i).oneCell' = true) (z : Array Value)
    (hd : a.eval d = .slice (some ⟨W.heap.size, 0, none⟩) n n) (hs : a.eval s = .slice ap n c)
    (h : ∀ w', Hid (CRow w' (some ⟨W.heap.size, 0, none⟩) n f) → Hid (Below W.heap.size W w') → wpList Try.prog ops Q rest (a.put o.dst (goInt n)) w') :
    wpList Try.prog ops Q (o :: rest) a (W.alloc (.cells (madeCells z n) e)) := by
  have hl : ((List.range n).map f).length = n := by simp
  refine wpList_copy_splice hgd d s T T ho e hu hsz (some ⟨W.heap.size, 0, none⟩) ap n n n c hd hs W.heap.size 0 (madeCells z n).toList e (by simpa using heap_alloc_new W (.cells (madeCells z n) e)) ((List.range n).map f) (by rw [hl]; exact (Nat.min_self n).symm) (fun hp => ⟨rfl, ?_⟩)
    (by rw [hl, Array.length_toList, size_madeCells]; omega) (fun v hv => ?_) W.heap.size W ((Below.refl _ _).alloc (Nat.le_refl _) _) (Nat.le_refl _) ?_
  · rw [hl] at hp
    rcases hrow with h0 | ⟨b, off, rfl, hb, hc⟩
    · omega
    · refine ⟨_, rfl, fun j v hj => ?_⟩
      have hjn : j < n := by have := (List.getElem?_eq_some_iff.1 hj).1; simpa using this
      rw [Addr.add_lit]
      refine cell_alloc _ ?_
      rw [hc j hjn, ← hj]
      simp [hjn]
  · obtain ⟨i, _, rfl⟩ := List.mem_map.1 hv
    exact hone i
  · intro w' hg hb
    rw [hl]
    refine h w' (show CRow _ _ _ _ from ?_) hb
    rcases Nat.eq_zero_or_pos n with h0 | h0
    · exact .inl h0
    · refine .inr ⟨W.heap.size, 0, rfl, lt_heap hg.out, fun i hi => ?_⟩
      rw [Nat.zero_add, cell_of_row w' W.heap.size i _ _ _ hg.out]
      simp only [splice, List.take_zero, List.nil_append, List.getElem?_toArray]
      rw [List.getElem?_append_left (by rw [hl]; exact hi)]
      simp [hi]

theorem one_str (f : Nat → ByteArray) : ∀ i, (Value.string (f i)).oneCell' = true := fun _ => rfl
theorem one_int (k : IntKind) (f : Nat → Int) : ∀ i, (Value.int k (f i)).oneCell' = true := fun _ => rfl

theorem Try.info9 : (Try.prog.info? 9).map (fun i => (i.zero, i.size, i.bytes)) = some (some (.string ByteArray.empty), 1, 16) := by kernel_rfl
theorem Try.info25 : (Try.prog.info? 25).map (fun i => (i.zero, i.size, i.bytes)) = some (some (.int .u64 0), 1, 8) := by kernel_rfl
theorem Try.info3 : (Try.prog.info? 3).map (fun i => (i.zero, i.size, i.bytes)) = some (some (.int .i64 0), 1, 8) := by kernel_rfl
theorem Try.size9 : (Try.prog.info? 9).map (·.size) = some 1 := by kernel_rfl
theorem Try.size25 : (Try.prog.info? 25).map (·.size) = some 1 := by kernel_rfl
theorem Try.size3 : (Try.prog.info? 3).map (·.size) = some 1 := by kernel_rfl

end Go.Proofs.Qxb6615804a

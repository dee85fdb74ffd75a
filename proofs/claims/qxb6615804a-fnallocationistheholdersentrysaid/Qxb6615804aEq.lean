import Derived.Test.Qxb6615804aBytes2
import Derived.Laws.Pointers
namespace Go.Proofs.Qxb6615804a
open Go.RowKit
set_option linter.unusedVariables false
set_option linter.unusedSimpArgs false

theorem Try.under35 : Try.prog.underlying 35 = some (.struct (Try.prog.fieldsOf 35)) := by kernel_rfl
theorem Try.held35 : Try.prog.stoodInHeld 35 = false := by kernel_rfl
theorem Try.guard35 : Try.prog.eqGuardType Try.prog.depth 35 = false := by kernel_rfl

theorem eqIn35 (h t : ByteArray) (v b : Int) (w : World) : (Op.equalIn 10000 35 (.agg #[.string h, .string t, .int .u64 0, .int .u64 v, .int .i64 b, .pointer none, .pointer none]) (.agg #[.string h, .string t, .int .u64 0, .int .u64 v, .int .i64 b, .pointer none, .pointer none])).run Try.prog w = .ok true w := by
  rw [run_equalIn_agg _ _ _ _ _ Try.under35 Try.held35]
  simp [Op.eqFields, go_sem, run_equalIn_pointer_nil, run_equalIn_agg]

@[go_sem] theorem eql35 (h t : ByteArray) (v b : Int) (w : World) : (binOp .eql 35 (.agg #[.string h, .string t, .int .u64 0, .int .u64 v, .int .i64 b, .pointer none, .pointer none]) (.agg #[.string h, .string t, .int .u64 0, .int .u64 v, .int .i64 b, .pointer none, .pointer none])).run Try.prog w = .ok (.bool true) w := by
  rw [run_eql_struct, eqIn35]; rfl
@[go_sem] theorem neq35 (h t : ByteArray) (v b : Int) (w : World) : (binOp .neq 35 (.agg #[.string h, .string t, .int .u64 0, .int .u64 v, .int .i64 b, .pointer none, .pointer none]) (.agg #[.string h, .string t, .int .u64 0, .int .u64 v, .int .i64 b, .pointer none, .pointer none])).run Try.prog w = .ok (.bool false) w := by
  rw [run_neq_struct, eqIn35]; rfl
@[go_sem] theorem eqGuard35 (x y : Operand) (xs ys : Array Value) (w : World) : (eqGuard .eql 35 x y (.agg xs) (.agg ys)).run Try.prog w = .ok () w := run_eqGuard_agg w _ _ _ _ _ _ Try.guard35
@[go_sem] theorem neGuard35 (x y : Operand) (xs ys : Array Value) (w : World) : (eqGuard .neq 35 x y (.agg xs) (.agg ys)).run Try.prog w = .ok () w := run_eqGuard_agg w _ _ _ _ _ _ Try.guard35

@[go_sem] theorem nilIn32 (d : Nat) (w : World) : (Op.equalIn (d + 1) 32 (.pointer none) (.pointer none)).run Try.prog w = .ok true w := run_equalIn_pointer_nil w d 32 none (by kernel_rfl)
@[go_sem] theorem nilIn33 (d : Nat) (w : World) : (Op.equalIn (d + 1) 33 (.pointer none) (.pointer none)).run Try.prog w = .ok true w := run_equalIn_pointer_nil w d 33 none (by kernel_rfl)

/-- what Table.Allocation answers of every table of these rows -/
def AllocIs (X : Nat → Ent) (n : Nat) (q : ByteArray) (x : Ent) (ok : Bool) : Prop :=
  ∀ (w : World) (tb mb K : Nat) (s : Nat → Nat) (a : Option Addr) (cK cb : Nat) (ib cp : Nat → Nat), TabIs w tb mb K n s X a cK cb ib cp →
    Calls Try.prog 12 #[.pointer (some ⟨tb, 0, none⟩), .string q] w fun e w' => e = .returned (.tuple #[entVal x, .bool ok]) ∧ Below w.heap.size w w'

theorem ent_key {X : Nat → Ent} {n : Nat} {q : ByteArray} {e : Ending} (h : EntR X n q e) (hup : ∀ i, i < n → 0 < i → (X (i - 1)).v < (X i).v) (hne : ∀ a b, a < b → b < n → (X a).h ≠ (X b).h) (hq : q.size ≤ maxLen) :
    ∃ x ok, e = .returned (.tuple #[entVal x, .bool ok]) ∧ AllocIs X n q x ok := by
  rcases h with ⟨i, hi, rfl, rfl⟩ | ⟨hno, rfl⟩
  · exact ⟨_, _, rfl, fun w tb mb K s a cK cb ib cp ht => alloc_some ht i hi hup hne hq⟩
  · exact ⟨_, _, rfl, fun w tb mb K s a cK cb ib cp ht => alloc_none ht q hno hq⟩

/-- the block of an allocation, and its cells in a later world -/
theorem ent_new (w : World) (x : Ent) : (w.alloc (.cells (entCells x).toArray 35)).heap[w.heap.size]? = some (.cells (entCells x).toArray 35) := heap_alloc_new w _

theorem ent_later {w w' : World} {p : Nat} {o : Obj} (h : w.heap[p]? = some o) (hb : Below w.heap.size w w') : w'.heap[p]? = some o := (hb.block _ (lt_heap h)).trans h

end Go.Proofs.Qxb6615804a

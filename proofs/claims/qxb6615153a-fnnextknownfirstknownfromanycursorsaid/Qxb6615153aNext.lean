import Derived.Test.Qxb6615153aCursor
namespace Go.Proofs.Qxb6615153a
open Go.RowKit
set_option linter.unusedVariables false
set_option linter.unusedSimpArgs false

theorem below_dn {B : Nat} {w w' : World} (h : Below B w w') (m : Nat) : Below B w (w'.drewN m) := ⟨h.os, h.tape, h.output, h.size, h.block⟩

set_option maxHeartbeats 1000000 in
theorem next49_in {w : World} {r B gI L : Nat} {m : List Nat} {idx : Nat → Int} {nb : Nat} {nx : Option Addr} {it : Nat → Nat} {aM cM aI cI ib : Nat} (h : LeafIs w r B gI L m idx nb nx it aM cM aI cI ib) (hf : Fit m) {i : Nat} (hi : i + 1 < m.length) :
    Calls Try.prog 49 #[.agg #[.pointer (some ⟨nb, 0, none⟩), .int .i64 (i : Int)]] w fun e w' => e = .returned (.agg #[.pointer (some ⟨nb, 0, none⟩), .int .i64 ((i + 1 : Nat) : Int)]) ∧ Below w.heap.size w w' := by
  have c3 := h.marks
  have hlt : nb < w.heap.size := World.block_lt_of_cell? w _ c3
  have hroom := hf.room
  have hq : ((i : Int) + 1 == (m.length : Int)) = false := by simp only [beq_eq_false_iff_ne]; omega
  clear h hf
  go_enter Try.func49, Try.ntmps49
  go_wp2
  go_quiet (fail)
  go_wp2
  refine bodyPost_ret (v := .agg #[.pointer (some ⟨nb, 0, none⟩), .int .i64 ((i + 1 : Nat) : Int)]) (by simp [results, Try.results49, go_sem]) rfl ⟨rfl, ?_⟩
  repeat (first | exact Below.refl _ _ | (refine Below.setCell ?_ (by simp) _) | (refine below_dn ?_ _) | (refine Below.alloc ?_ (by simp) _))

set_option maxHeartbeats 1000000 in
theorem next49_out {w : World} {r B gI L : Nat} {m : List Nat} {idx : Nat → Int} {nb : Nat} {nx : Option Addr} {it : Nat → Nat} {aM cM aI cI ib : Nat} (h : LeafIs w r B gI L m idx nb nx it aM cM aI cI ib) (hf : Fit m) {i : Nat} (hi : i + 1 = m.length) :
    Calls Try.prog 49 #[.agg #[.pointer (some ⟨nb, 0, none⟩), .int .i64 (i : Int)]] w fun e w' => e = .returned (.agg #[.pointer nx, .int .i64 0]) ∧ Below w.heap.size w w' := by
  have c3 := h.marks
  have c4 := h.next
  have hlt : nb < w.heap.size := World.block_lt_of_cell? w _ c3
  have hroom := hf.room
  have hq : ((i : Int) + 1 == (m.length : Int)) = true := by simp only [beq_iff_eq]; omega
  have hib : i < 128 := by omega
  clear h hf hi
  go_enter Try.func49, Try.ntmps49
  go_wp2
  go_quiet (fail)
  go_wp2
  refine bodyPost_ret (v := .agg #[.pointer nx, .int .i64 0]) (by simp [results, Try.results49, go_sem]) rfl ⟨rfl, ?_⟩
  repeat (first | exact Below.refl _ _ | (refine Below.setCell ?_ (by simp) _) | (refine below_dn ?_ _) | (refine Below.alloc ?_ (by simp) _))

end Go.Proofs.Qxb6615153a

import Derived.Test.Qxb6615153aRows
import Derived.WalkKit
import Derived.WalkSpells
import Derived.Below
import Derived.Deep.OwnRows
namespace Go.Proofs.Qxb6615153a
open Go.RowKit

theorem Try.info5 : (Try.prog.info? 5).map (fun i => (i.zero, i.size, i.bytes)) = some (some (.int .u8 0), 1, 1) := by kernel_rfl

/-- a slice of bytes that reads zs -/
def BRow (w : World) (a : Option Addr) (n : Nat) (zs : List Int) : Prop :=
  zs.length = n ∧ (n = 0 ∨ ∃ b off, a = some ⟨b, off, none⟩ ∧ b < w.heap.size ∧ ∀ i, i < n → w.cell? ⟨b, off + i, none⟩ = some (.int .u8 (zs.getD i 0)))

set_option maxHeartbeats 400000 in
theorem copy_some (x : Addr) (n c : Nat) (zs : List Int) (w : World) (hn : n ≤ 1048576) (hr : BRow w (some x) n zs) :
    Calls Try.prog 10 #[.slice (some x) n c] w fun e w' => e = .returned (.slice (some ⟨w.heap.size, 0, none⟩) n n) ∧ w'.rowIs w.heap.size 5 n (fun i => .int .u8 (zs.getD i 0)) ∧ Below w.heap.size w w' := by
  have hmk := run_make_row' (P := Try.prog) 22 5 (.int .u8 0) 1 Try.underlying22 Try.info5 rfl .i64 .i64 n (by omega) (by omega)
  have hnil : ∀ W : World, (binOp .eql 22 (.slice (some x) n c) (.slice none 0 0)).run Try.prog W = .ok (.bool false) W := fun W => Lib.run_eql_slice_nil W _ _ (some x) n c 0 0 Try.underlying22
  go_enter Try.func10, Try.ntmps10
  go_wp2
  go_loopw [4] (fun i wr => ∃ k : Nat, k ≤ n ∧ i = .int .i64 k ∧ wr.rowIs w.heap.size 5 n (fun j => if j < k then .int .u8 (zs.getD j 0) else .int .u8 0) ∧ Below w.heap.size w wr)
    (fun i _ => n - (intOf i).toNat)
  case atStart => exact ⟨0, Nat.zero_le _, rfl, (World.rowIs_made w (.int .u8 0) n 5).congr (fun i _ => by simp), (Below.refl _ _).alloc (Nat.le_refl _) _⟩
  case round =>
    obtain ⟨k, hk, rfl, hrow, hbel⟩ := hrel
    by_cases hlt : k < n
    · rcases hr.2 with h0 | ⟨b, off, hx, hb, hc⟩
      · omega
      · obtain rfl := Option.some.inj hx
        have c1 : wr.cell? ⟨b, off + k, none⟩ = some (.int .u8 (zs.getD k 0)) := (hbel.cell (by exact hb)).trans (hc k hlt)
        have c2 := hrow.cell hlt
        have c3 := hrow.frozen k
        have R : (wr.setCell ⟨w.heap.size, k, none⟩ (.int .u8 (zs.getD k 0))).rowIs w.heap.size 5 n (fun j => if j < k + 1 then .int .u8 (zs.getD j 0) else .int .u8 0) :=
          (hrow.set k (.int .u8 (zs.getD k 0))).congr (fun i _ => by
            by_cases e : i = k
            · subst e; simp
            · by_cases e2 : i < k
              · simp [e, e2, show i < k + 1 by omega]
              · simp [e, e2, show ¬ i < k + 1 by omega])
        have Bl : Below w.heap.size w (wr.setCell ⟨w.heap.size, k, none⟩ (.int .u8 (zs.getD k 0))) := hbel.setCell (by simp) _
        have HR : Hid _ := R
        clear R hrow hr hx hc
        go_wp2
        go_roundw
        case rel => exact ⟨k + 1, by omega, by go_num, HR.out, Bl⟩
        case measure => simp [intOf]; omega
    · have : k = n := by omega
      subst this
      go_wp2
      go_ret
      exact ⟨rfl, hrow.congr (fun i hi => by simp [hi]), hbel⟩

end Go.Proofs.Qxb6615153a

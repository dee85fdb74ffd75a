import Derived.Test.Qxb6615153aWriter
namespace Go.Proofs.Qxb6615153a
open Go.RowKit

set_option maxHeartbeats 400000 in
theorem zzcp_any (g base : Nat) (v0 v1 : Value) (c2 c3 c4 c5 c6 c7 : Int) (n : Nat) (xs : List Value) (s : ByteArray) (w : World) (hw : Wr w g v0 v1 c2 c3 c4 c5 c6 c7)
    (hown : w.ownsRow base 5 1 v1 n xs) (hbase : base ≤ w.heap.size) (hn : n + s.size ≤ 1000000000) :
    Calls Try.prog 12 #[.pointer (some ⟨g, 0, none⟩), .string s] w fun e w' => e = .returned (.tuple #[]) ∧ ∃ v1', Wr w' g v0 v1' c2 c3 c4 c5 c6 c7 ∧
      w'.ownsRow base 5 1 v1' (n + s.size) (xs ++ byteCells s) ∧ (v1'.ownBlock = v1.ownBlock ∨ v1'.ownBlock = some w.heap.size) ∧ Kept (fun k => k = g ∨ v1.ownBlock = some k) w w' := by
  go_enter Try.func12, Try.ntmps12
  go_wp2_with fail
  refine (cp_any g base v0 v1 c2 c3 c4 c5 c6 c7 n xs s w hw hown hbase hn).mono ?_
  rintro e w' ⟨rfl, h⟩
  have H : Hid _ := h
  clear h hw hown
  go_wp2
  go_end0
  exact ⟨rfl, H.out⟩

set_option maxHeartbeats 400000 in
theorem new_any (a0 : Option Addr) (n0 k0 : Nat) (a1 : Option Addr) (n1 k1 : Nat) (c2 c3 c4 c5 c6 c7 : Int) (w : World) :
    Calls Try.prog 11 #[.slice a0 n0 k0, .slice a1 n1 k1, .int .i64 c2, .int .i64 c3, .int .i64 c4, .int .i64 c5, .int .i64 c6, .int .i64 c7] w fun e w' => e = .returned (.pointer (some ⟨w.heap.size, 0, none⟩)) ∧
      Wr w' w.heap.size (.slice a0 n0 k0) (.slice a1 n1 k1) c2 c3 c4 c5 c6 c7 ∧ w' = w.alloc (.cells #[.slice a0 n0 k0, .slice a1 n1 k1, .int .i64 c2, .int .i64 c3, .int .i64 c4, .int .i64 c5, .int .i64 c6, .int .i64 c7] 71) := by
  go_enter Try.func11, Try.ntmps11
  go_wp2
  go_ret
  exact ⟨rfl, heap_alloc_new w _, rfl⟩

set_option maxHeartbeats 400000 in
theorem fields_any (g : Nat) (v0 v1 : Value) (c2 c3 c4 c5 c6 c7 : Int) (w : World) (hw : Wr w g v0 v1 c2 c3 c4 c5 c6 c7) :
    Calls Try.prog 13 #[.pointer (some ⟨g, 0, none⟩)] w fun e w' => e = .returned (.tuple #[v0, v1, .int .i64 c2, .int .i64 c3, .int .i64 c4, .int .i64 c5, .int .i64 c6, .int .i64 c7]) ∧ ∃ m, w' = w.drewN m := by
  obtain ⟨h0, h1, h2, h3, h4, h5, h6, h7, _⟩ := hw.cells
  clear hw
  go_enter Try.func13, Try.ntmps13
  go_wp2
  go_quiet (fail)
  go_wp2
  exact bodyPost_ret (v := .tuple #[v0, v1, .int .i64 c2, .int .i64 c3, .int .i64 c4, .int .i64 c5, .int .i64 c6, .int .i64 c7]) (by simp [results, Try.results13, go_sem]) rfl ⟨rfl, _, rfl⟩

end Go.Proofs.Qxb6615153a

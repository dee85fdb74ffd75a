import Derived.Test.Qxb6615153aPlain5
namespace Go.Proofs.Qxb6615153a
open Go.RowKit

/-- a string's bytes, as numbers -/
def bytesOf (s : ByteArray) : List Int := s.data.toList.map fun b => (b.toNat : Int)
theorem byteCells_eq (s : ByteArray) : byteCells s = (bytesOf s).map (Value.int .u8) := by
  unfold byteCells bytesOf; rw [List.map_map]; rfl
theorem bytesOf_length (s : ByteArray) : (bytesOf s).length = s.size := by
  unfold bytesOf; rw [List.length_map, Array.length_toList]; rfl
theorem bytesOf_at (s : ByteArray) (j : Nat) (h : j < s.size) : (bytesOf s).getD j 0 = (s[j].toNat : Int) := by
  have e : s.data.toList[j]? = some s[j] := by rw [List.getElem?_eq_getElem (by simpa using h)]; rfl
  unfold bytesOf
  rw [List.getD_eq_getElem?_getD, List.getElem?_map, e]; rfl
theorem bytesOf_cut (s : ByteArray) (c : Nat) (h : c ≤ s.size) : bytesOf (s.extract 0 c) ++ bytesOf (s.extract c s.size) = bytesOf s := by
  unfold bytesOf
  rw [← List.map_append]
  congr 1
  have e : (s.extract 0 c).data ++ (s.extract c s.size).data = s.data := by
    rw [ByteArray.data_extract, ByteArray.data_extract]
    have hsz : s.size = s.data.size := rfl
    have h1 : min 0 c = 0 := by omega
    have h2 : max c s.size = s.data.size := by omega
    rw [Array.extract_append_extract, h1, h2]
    exact Array.extract_size
  rw [← Array.toList_append, e]

theorem brow_owns {w : World} {base n c : Nat} {ao : Option Addr} {zs : List Int} (h : w.ownsRow base 5 1 (.slice ao n c) n (zs.map (Value.int .u8))) : BRow w ao n zs := by
  have hl : zs.length = n := by have := h.1; simpa using this
  refine ⟨hl, ?_⟩
  by_cases h0 : n = 0
  · exact .inl h0
  · right
    obtain ⟨g, rfl, _, _⟩ := own_at h (j := 0) (u := .int .u8 (zs.getD 0 0)) (by simp [show 0 < zs.length by omega])
    refine ⟨g, 0, rfl, (h.lt g rfl).2, fun i hi => ?_⟩
    obtain ⟨g', e, hc, _⟩ := own_at h (j := i) (u := .int .u8 (zs.getD i 0)) (by simp [show i < zs.length by omega])
    simp at e
    subst e
    rw [Nat.zero_add]; exact hc

theorem nil_owns {w : World} {base n c : Nat} {ao : Option Addr} {xs : List Value} (h : w.ownsRow base 5 1 (.slice ao n c) n xs) : ao = none → n = 0 := by
  rintro rfl
  rcases h.2 with ⟨_, hn⟩ | ⟨g, cap, cur, hv, _⟩
  · exact hn
  · simp at hv

theorem Wr.below {B : Nat} {w w' : World} {g : Nat} {v0 v1 : Value} {c2 c3 c4 c5 c6 c7 : Int} (h : Wr w g v0 v1 c2 c3 c4 c5 c6 c7) (hb : Below B w w') (hB : w.heap.size ≤ B) : Wr w' g v0 v1 c2 c3 c4 c5 c6 c7 :=
  (hb.block g (by have := lt_of_block h; omega)).trans h

theorem Below.drewN {B : Nat} {w w' : World} (h : Below B w w') (m : Nat) : Below B w (w'.drewN m) := ⟨h.os, h.tape, h.output, h.size, h.block⟩

set_option maxHeartbeats 400000 in
theorem bytes9_any (a0 : Option Addr) (n0 k0 : Nat) (a1 : Option Addr) (n1 k1 : Nat) (c2 c3 c4 c5 c6 c7 : Int) (s : ByteArray) (cut : Int) (w : World) (h0 : n0 ≤ maxLen) (h1 : n1 ≤ maxLen) (h2 : s.size ≤ maxLen) :
    Calls Try.prog 9 #[.slice a0 n0 k0, .slice a1 n1 k1, .int .i64 c2, .int .i64 c3, .int .i64 c4, .int .i64 c5, .int .i64 c6, .int .i64 c7, .string s, .int .i64 cut] w fun e w' => SomeBool e ∧ w' = w := by
  unfold maxLen at h0 h1 h2
  by_cases b0 : n0 ≤ 1048576
  case neg =>
    go_enter Try.func9, Try.ntmps9
    go_wp2
    go_ret
    exact ⟨⟨_, rfl⟩, rfl⟩
  by_cases b1 : n1 ≤ 1048576
  case neg =>
    go_enter Try.func9, Try.ntmps9
    go_wp2
    go_ret
    exact ⟨⟨_, rfl⟩, rfl⟩
  by_cases b2 : n0 + n1 ≤ 1048576
  case neg =>
    go_enter Try.func9, Try.ntmps9
    go_wp2
    go_ret
    exact ⟨⟨_, rfl⟩, rfl⟩
  by_cases b3 : s.size ≤ 1048576
  case neg =>
    go_enter Try.func9, Try.ntmps9
    go_wp2
    go_ret
    exact ⟨⟨_, rfl⟩, rfl⟩
  by_cases b4 : n0 + n1 + s.size ≤ 1048576
  case neg =>
    go_enter Try.func9, Try.ntmps9
    go_wp2
    go_ret
    exact ⟨⟨_, rfl⟩, rfl⟩
  go_enter Try.func9, Try.ntmps9
  go_wp2
  go_ret
  exact ⟨⟨_, rfl⟩, rfl⟩

set_option maxHeartbeats 400000 in
theorem eq_any (a0 : Option Addr) (k0 : Nat) (a1 : Option Addr) (k1 : Nat) (n : Nat) (zs : List Int) (w : World) (hn : n ≤ 1000000000) (h0 : BRow w a0 n zs) (h1 : BRow w a1 n zs) :
    Calls Try.prog 14 #[.slice a0 n k0, .slice a1 n k1] w fun e w' => e = .returned (.bool true) ∧ ∃ m, w' = w.drewN m := by
  have H0 : Hid _ := h0
  have H1 : Hid _ := h1
  clear h0 h1
  go_enter Try.func14, Try.ntmps14
  go_wp2
  go_loopw [5] (fun i wq => ∃ j : Nat, j ≤ n ∧ i = .int .i64 j ∧ ∃ m', wq = w.drewN m') (fun i _ => n - (intOf i).toNat)
  case atStart => exact ⟨0, Nat.zero_le _, rfl, 0, rfl⟩
  case round =>
    obtain ⟨j, hj, rfl, m', hwq⟩ := hrel
    subst hwq
    by_cases hlt : j < n
    · rcases H0.out.2 with h | ⟨b, off, rfl, _, hc⟩
      · omega
      rcases H1.out.2 with h | ⟨b', off', rfl, _, hc'⟩
      · omega
      have c1 := hc j hlt
      have c2 := hc' j hlt
      have hi : (j : Int) < (n : Int) := by omega
      clear hc hc'
      go_wp2
      go_quiet (fail)
      go_wp2
      go_roundw
      case rel => exact ⟨j + 1, by omega, by go_num, _, rfl⟩
      case measure => simp [intOf]; omega
    · go_wp2
      go_ret
      exact ⟨rfl, _, rfl⟩

end Go.Proofs.Qxb6615153a

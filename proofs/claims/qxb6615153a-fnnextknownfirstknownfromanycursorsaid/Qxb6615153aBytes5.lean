import Derived.Test.Qxb6615153aWriter2
namespace Go.Proofs.Qxb6615153a
open Go.RowKit

/-- a bool came back -/
def SomeBool (e : Ending) : Prop := ∃ r : Bool, e = .returned (.bool r)

/-- a slice of strings that reads ss -/
def SRow (w : World) (a : Option Addr) (n : Nat) (ss : List ByteArray) : Prop :=
  ss.length = n ∧ (∀ s ∈ ss, s.size ≤ maxLen) ∧ (n = 0 ∨ ∃ b off, a = some ⟨b, off, none⟩ ∧ b < w.heap.size ∧ ∀ i, i < n → w.cell? ⟨b, off + i, none⟩ = some (.string (ss.getD i ByteArray.empty)))

theorem SRow.pick {w : World} {a : Option Addr} {n : Nat} {ss : List ByteArray} (h : SRow w a n ss) {k : Nat} (hk : k < n) :
    ∃ b off s, a = some ⟨b, off, none⟩ ∧ b < w.heap.size ∧ w.cell? ⟨b, off + k, none⟩ = some (.string s) ∧ ss[k]? = some s ∧ s.size ≤ maxLen := by
  obtain ⟨hl, hm, h | ⟨b, off, ha, hb, hc⟩⟩ := h
  · omega
  · have hk' : k < ss.length := by omega
    refine ⟨b, off, ss[k], ha, hb, ?_, by simp [hk'], hm _ (List.getElem_mem _)⟩
    rw [hc k hk]; simp [hk']

theorem short_step {ss : List ByteArray} {k : Nat} {s : ByteArray} (h : ∀ (i : Nat) (s : ByteArray), i < k → ss[i]? = some s → s.size ≤ 1048576) (hs : ss[k]? = some s) (hb : s.size ≤ 1048576) : ∀ (i : Nat) (s : ByteArray), i < k + 1 → ss[i]? = some s → s.size ≤ 1048576 := by
  intro i t hi ht
  by_cases e : i = k
  · subst e; rw [hs] at ht; obtain rfl := Option.some.inj ht; exact hb
  · exact h i t (by omega) ht

/-- 'false', or 'true' and every string is short -/
def Small (ss : List ByteArray) (e : Ending) : Prop := e = .returned (.bool false) ∨ (e = .returned (.bool true) ∧ ∀ (i : Nat) (s : ByteArray), ss[i]? = some s → s.size ≤ 1048576)

set_option maxHeartbeats 1000000 in
theorem bytes22_any (a0 : Option Addr) (n0 k0 : Nat) (a1 : Option Addr) (n1 k1 : Nat) (ss : List ByteArray) (w : World) (hs : SRow w a1 n1 ss) (h0 : n0 ≤ maxLen) (h1 : n1 ≤ maxLen) :
    Calls Try.prog 22 #[.slice a0 n0 k0, .slice a1 n1 k1] w fun e w' => Small ss e ∧ w' = w := by
  unfold maxLen at h0 h1
  by_cases b0 : n0 ≤ 1048576
  case neg =>
    go_enter Try.func22, Try.ntmps22
    go_wp2
    go_ret
    exact ⟨.inl rfl, rfl⟩
  by_cases b1 : n1 ≤ 1048576
  case neg =>
    go_enter Try.func22, Try.ntmps22
    go_wp2
    go_ret
    exact ⟨.inl rfl, rfl⟩
  by_cases b2 : n0 + n1 ≤ 1048576
  case neg =>
    go_enter Try.func22, Try.ntmps22
    go_wp2
    go_ret
    exact ⟨.inl rfl, rfl⟩
  go_enter Try.func22, Try.ntmps22
  go_wp2
  go_loop [5, 6] (fun t i => ∃ (k : Nat) (z : Int), k ≤ n1 ∧ i = .int .i64 k ∧ t = .int .i64 z ∧ 0 ≤ z ∧ z ≤ 1048576 ∧ ∀ (i : Nat) (s : ByteArray), i < k → ss[i]? = some s → s.size ≤ 1048576) (fun _ i => n1 - (intOf i).toNat)
  case atStart => exact ⟨0, _, Nat.zero_le _, rfl, rfl, by omega, by omega, fun i s h => absurd h (by omega)⟩
  case round =>
    obtain ⟨k, z, hk, rfl, rfl, hz0, hz1, hall⟩ := hrel
    have HA : Hid _ := hall
    clear hall
    by_cases hlt : k < n1
    · obtain ⟨b, off, s, rfl, hb, hc, hsk, hsz⟩ := hs.pick hlt
      have HK : Hid _ := hsk
      clear hsk
      unfold maxLen at hsz
      clear hs
      by_cases d1 : (s.size : Int) ≤ 1048576
      · by_cases d2 : z + (s.size : Int) ≤ 1048576
        · go_wp2
          go_round
          case rel => exact ⟨k + 1, _, by omega, by go_num, rfl, by omega, by omega, short_step HA.out HK.out (by omega)⟩
          case measure => simp [intOf]; omega
        · go_wp2
          go_ret
          exact ⟨.inl rfl, rfl⟩
      · go_wp2
        go_ret
        exact ⟨.inl rfl, rfl⟩
    · have hl := hs.1
      clear hs
      go_wp2
      go_ret
      exact ⟨.inr ⟨rfl, fun i s h => HA.out i s (by have := (List.getElem?_eq_some_iff.1 h).1; omega) h⟩, rfl⟩

end Go.Proofs.Qxb6615153a

import Derived.Test.Qxb6615154aRows
import Derived.WalkKit
import Derived.WalkSpells
import Derived.Below
import Derived.Deep.OwnRows
import Derived.Deep.QuietTactic
import Derived.BigQuiet
import Derived.BigRegion
namespace Go.Proofs.Qxb6615154a
open Go.RowKit
set_option linter.unusedVariables false
set_option linter.unusedSimpArgs false

/-- a slice of events (a path, a kind) that reads ps -/
def ERow (w : World) (a : Option Addr) (n : Nat) (ps : List (ByteArray × ByteArray)) : Prop :=
  ps.length = n ∧ (∀ p ∈ ps, p.1.size ≤ maxLen ∧ p.2.size ≤ maxLen) ∧ (n = 0 ∨ ∃ b off, a = some ⟨b, off, none⟩ ∧ b < w.heap.size ∧ ∀ (i : Nat) (p : ByteArray × ByteArray), ps[i]? = some p → w.cell? ⟨b, off + i * 2, none⟩ = some (.string p.1) ∧ w.cell? ⟨b, off + i * 2 + 1, none⟩ = some (.string p.2))

theorem ERow.pick {w : World} {a : Option Addr} {n : Nat} {ps : List (ByteArray × ByteArray)} (h : ERow w a n ps) {k : Nat} (hk : k < n) :
    ∃ b off s t, a = some ⟨b, off, none⟩ ∧ b < w.heap.size ∧ w.cell? ⟨b, off + k * 2, none⟩ = some (.string s) ∧ w.cell? ⟨b, off + k * 2 + 1, none⟩ = some (.string t) ∧ ps[k]? = some (s, t) ∧ s.size ≤ maxLen ∧ t.size ≤ maxLen := by
  obtain ⟨hl, hm, h | ⟨b, off, ha, hb, hc⟩⟩ := h
  · omega
  · have hk' : k < ps.length := by omega
    have hp : ps[k]? = some ps[k] := by simp [hk']
    obtain ⟨c1, c2⟩ := hc k _ hp
    obtain ⟨m1, m2⟩ := hm _ (List.getElem_mem hk')
    exact ⟨b, off, _, _, ha, hb, c1, c2, hp, m1, m2⟩

/-- a bool came back -/
def SomeBool (e : Ending) : Prop := ∃ r : Bool, e = .returned (.bool r)

set_option maxHeartbeats 400000 in
theorem bytes5_any (a : Option Addr) (n c : Nat) (ps : List (ByteArray × ByteArray)) (x : Int) (y : Bool) (w : World) (hs : ERow w a n ps) (h1 : n ≤ maxLen) :
    Calls Try.prog 5 #[.slice a n c, .int .i64 x, .bool y] w fun e w' => SomeBool e ∧ w' = w := by
  unfold maxLen at h1
  by_cases b1 : n ≤ 1048576
  case neg =>
    go_enter Try.func5, Try.ntmps5
    go_wp2
    go_ret
    exact ⟨⟨_, rfl⟩, rfl⟩
  go_enter Try.func5, Try.ntmps5
  go_wp2
  go_loop [7, 8] (fun t i => ∃ (k : Nat) (z : Int), k ≤ n ∧ i = .int .i64 k ∧ t = .int .i64 z ∧ 0 ≤ z ∧ z ≤ 1048576) (fun _ i => n - (intOf i).toNat)
  case atStart => exact ⟨0, _, Nat.zero_le _, rfl, rfl, by omega, by omega⟩
  case round =>
    obtain ⟨k, z, hk, rfl, rfl, hz0, hz1⟩ := hrel
    by_cases hlt : k < n
    · obtain ⟨b, off, s, t, rfl, hb, c1, c2, _, m1, m2⟩ := hs.pick hlt
      unfold maxLen at m1 m2
      clear hs
      by_cases d1 : s.size ≤ 1048576
      · by_cases d2 : z + (s.size : Int) ≤ 1048576
        · by_cases d3 : t.size ≤ 1048576
          · by_cases d4 : z + (s.size : Int) + (t.size : Int) ≤ 1048576
            · go_wp2
              go_round
              case rel => exact ⟨k + 1, _, by omega, by go_num, rfl, by omega, by omega⟩
              case measure => simp [intOf]; omega
            · go_wp2
              go_ret
              exact ⟨⟨_, rfl⟩, rfl⟩
          · go_wp2
            go_ret
            exact ⟨⟨_, rfl⟩, rfl⟩
        · go_wp2
          go_ret
          exact ⟨⟨_, rfl⟩, rfl⟩
      · go_wp2
        go_ret
        exact ⟨⟨_, rfl⟩, rfl⟩
    · go_wp2
      go_ret
      exact ⟨⟨_, rfl⟩, rfl⟩
set_option maxHeartbeats 400000 in
theorem bytes9_any (a : Option Addr) (n c : Nat) (ps : List (ByteArray × ByteArray)) (x : Int) (pa ki : ByteArray) (w : World) (hs : ERow w a n ps) (h1 : n ≤ maxLen) (hp : pa.size ≤ maxLen) (hk : ki.size ≤ maxLen) :
    Calls Try.prog 9 #[.slice a n c, .int .i64 x, .string pa, .string ki] w fun e w' => SomeBool e ∧ w' = w := by
  unfold maxLen at h1 hp hk
  by_cases b1 : n ≤ 1048576
  case neg =>
    go_enter Try.func9, Try.ntmps9
    go_wp2
    go_ret
    exact ⟨⟨_, rfl⟩, rfl⟩
  go_enter Try.func9, Try.ntmps9
  go_wp2
  go_loop [9, 10] (fun t i => ∃ (k : Nat) (z : Int), k ≤ n ∧ i = .int .i64 k ∧ t = .int .i64 z ∧ 0 ≤ z ∧ z ≤ 1048576) (fun _ i => n - (intOf i).toNat)
  case atStart => exact ⟨0, _, Nat.zero_le _, rfl, rfl, by omega, by omega⟩
  case round =>
    obtain ⟨k, z, hkn, rfl, rfl, hz0, hz1⟩ := hrel
    by_cases hlt : k < n
    · obtain ⟨b, off, s, t, rfl, hb, c1, c2, _, m1, m2⟩ := hs.pick hlt
      unfold maxLen at m1 m2
      clear hs
      by_cases d1 : s.size ≤ 1048576
      · by_cases d2 : z + (s.size : Int) ≤ 1048576
        · by_cases d3 : t.size ≤ 1048576
          · by_cases d4 : z + (s.size : Int) + (t.size : Int) ≤ 1048576
            · go_wp2
              go_round
              case rel => exact ⟨k + 1, _, by omega, by go_num, rfl, by omega, by omega⟩
              case measure => simp [intOf]; omega
            · go_wp2
              go_ret
              exact ⟨⟨_, rfl⟩, rfl⟩
          · go_wp2
            go_ret
            exact ⟨⟨_, rfl⟩, rfl⟩
        · go_wp2
          go_ret
          exact ⟨⟨_, rfl⟩, rfl⟩
      · go_wp2
        go_ret
        exact ⟨⟨_, rfl⟩, rfl⟩
    · clear hs
      by_cases d1 : pa.size ≤ 1048576
      · by_cases d2 : z + (pa.size : Int) ≤ 1048576
        · by_cases d3 : ki.size ≤ 1048576
          · by_cases d4 : z + (pa.size : Int) + (ki.size : Int) ≤ 1048576
            · go_wp2
              go_ret
              exact ⟨⟨_, rfl⟩, rfl⟩
            · go_wp2
              go_ret
              exact ⟨⟨_, rfl⟩, rfl⟩
          · go_wp2
            go_ret
            exact ⟨⟨_, rfl⟩, rfl⟩
        · go_wp2
          go_ret
          exact ⟨⟨_, rfl⟩, rfl⟩
      · go_wp2
        go_ret
        exact ⟨⟨_, rfl⟩, rfl⟩

/-- 'true', or 'false' and the list is not long -/
def Slim (n : Nat) (e : Ending) : Prop := e = .returned (.bool true) ∨ (e = .returned (.bool false) ∧ n ≤ 65536)

set_option maxHeartbeats 400000 in
theorem big6_any (a : Option Addr) (n c : Nat) (ps : List (ByteArray × ByteArray)) (w : World) (hs : ERow w a n ps) (h1 : n ≤ maxLen) :
    Calls Try.prog 6 #[.slice a n c] w fun e w' => Slim n e ∧ ∃ q, w' = w.drewN q := by
  unfold maxLen at h1
  by_cases b1 : n ≤ 65536
  case neg =>
    go_enter Try.func6, Try.ntmps6
    go_wp2
    go_ret
    exact ⟨.inl rfl, 0, rfl⟩
  have HS : Hid (ERow w a n ps) := hs
  clear hs
  go_enter Try.func6, Try.ntmps6
  go_wp2
  go_loopw [3, 4] (fun t i wr => ∃ (k : Nat) (z : Int), k ≤ n ∧ i = .int .i64 k ∧ t = .int .i64 z ∧ 0 ≤ z ∧ z ≤ 524288 ∧ ∃ q, wr = w.drewN q) (fun _ i _ => n - (intOf i).toNat)
  case atStart => exact ⟨0, _, Nat.zero_le _, rfl, rfl, by omega, by omega, 0, rfl⟩
  case round =>
    obtain ⟨k, z, hk, rfl, rfl, hz0, hz1, q, hq⟩ := hrel
    subst hq
    by_cases hlt : k < n
    · obtain ⟨b, off, s, t, rfl, hb, c1, c2, _, m1, m2⟩ := ERow.pick HS.out hlt
      unfold maxLen at m1 m2
      have i1 : (k : Int) < (n : Int) := by omega
      by_cases d1 : s.size ≤ 524288
      · have g1 : decide ((524288 : Int) < (s.size : Int)) = false := decide_eq_false (by omega)
        by_cases d2 : t.size ≤ 524288
        · have w1 : IntKind.i64.wrap (32 + (s.size : Int)) = 32 + (s.size : Int) := by rw [IntKind.wrap_i64]; omega
          have w2 : IntKind.i64.wrap (32 + (s.size : Int) + (t.size : Int)) = 32 + (s.size : Int) + (t.size : Int) := by rw [IntKind.wrap_i64]; omega
          have w3 : IntKind.i64.wrap (z + (32 + (s.size : Int) + (t.size : Int))) = z + (32 + (s.size : Int) + (t.size : Int)) := by rw [IntKind.wrap_i64]; omega
          by_cases d3 : z + (32 + (s.size : Int) + (t.size : Int)) ≤ 524288
          · go_wp2
            go_quiet (fail)
            go_wp2
            go_roundw
            case rel => exact ⟨k + 1, _, by omega, by go_num, rfl, by omega, by omega, _, rfl⟩
            case measure => simp [intOf]; omega
          · go_wp2
            go_quiet (fail)
            go_wp2
            go_ret
            exact ⟨.inl rfl, _, rfl⟩
        · go_wp2
          go_ret
          exact ⟨.inl rfl, _, rfl⟩
      · have g1 : decide ((524288 : Int) < (s.size : Int)) = true := decide_eq_true (by omega)
        go_wp2
        go_ret
        exact ⟨.inl rfl, _, rfl⟩
    · go_wp2
      go_ret
      exact ⟨.inr ⟨rfl, b1⟩, _, rfl⟩

end Go.Proofs.Qxb6615154a

import Derived.Test.Qxb6615804aEnt
namespace Go.Proofs.Qxb6615804a
open Go.RowKit
set_option linter.unusedVariables false
set_option linter.unusedSimpArgs false

set_option maxRecDepth 100000 in
set_option maxHeartbeats 4000000 in
theorem bytes6_any (w : World) (a1 a2 : Option Addr) (n1 n2 c1 c2 : Nat) (S1 S2 : Nat → ByteArray) (a3 a4 a5 a6 : Option Addr) (n3 n4 n5 n6 c3 c4 c5 c6 : Nat) (mc u : Int) (q : ByteArray) (h1 : CRow w a1 n1 fun i => .string (S1 i)) (h2 : CRow w a2 n2 fun i => .string (S2 i)) (hn1 : n1 ≤ maxLen) (hn2 : n2 ≤ maxLen) :
    Calls Try.prog 6 #[.slice a1 n1 c1, .slice a2 n2 c2, .slice a3 n3 c3, .slice a4 n4 c4, .slice a5 n5 c5, .slice a6 n6 c6, .int .i64 mc, .int .u64 u, .string q] w fun e w' => SomeBool e ∧ w' = w := by
  have H1 := hidden h1
  have H2 := hidden h2
  clear h1 h2
  unfold maxLen at hn1 hn2
  go_enter Try.func6, Try.ntmps6
  go_wp2
  all_goals try (go_ret; exact ⟨⟨_, rfl⟩, rfl⟩)
  go_loop [19, 20] (fun v9 v10 => ∃ (k : Nat) (z : Int), k ≤ n1 ∧ v10 = .int .i64 (k : Int) ∧ v9 = .int .i64 z) (fun _ v10 => n1 - (intOf v10).toNat)
  case atStart => exact ⟨0, _, Nat.zero_le _, rfl, rfl⟩
  case round =>
    obtain ⟨k, z, hk, rfl, rfl⟩ := hrel
    by_cases hlt : k < n1
    · obtain ⟨b, off, rfl, _, cS⟩ := CRow.pick H1.out hlt
      have hkz : (k : Int) < (n1 : Int) := by omega
      go_wp2
      all_goals first
        | (go_ret; exact ⟨⟨_, rfl⟩, rfl⟩)
        | (go_round; (case rel => exact ⟨k + 1, _, by omega, by go_num, rfl⟩); (case measure => simp [intOf]; omega))
    · have hkz : decide ((k : Int) < (n1 : Int)) = false := by simp; omega
      go_wp2
      all_goals try (go_ret; exact ⟨⟨_, rfl⟩, rfl⟩)
      go_loop [19, 21] (fun v9 v10 => ∃ (k : Nat) (z : Int), k ≤ n2 ∧ v10 = .int .i64 (k : Int) ∧ v9 = .int .i64 z) (fun _ v10 => n2 - (intOf v10).toNat)
      case atStart => exact ⟨0, _, Nat.zero_le _, rfl, rfl⟩
      case round =>
        obtain ⟨j, y, hj, rfl, rfl⟩ := hrel
        by_cases hlt2 : j < n2
        · obtain ⟨b, off, rfl, _, cS⟩ := CRow.pick H2.out hlt2
          have hjz : (j : Int) < (n2 : Int) := by omega
          go_wp2
          all_goals first
            | (go_ret; exact ⟨⟨_, rfl⟩, rfl⟩)
            | (go_round; (case rel => exact ⟨j + 1, _, by omega, by go_num, rfl⟩); (case measure => simp [intOf]; omega))
        · have hjz : decide ((j : Int) < (n2 : Int)) = false := by simp; omega
          go_wp2
          all_goals (go_ret; exact ⟨⟨_, rfl⟩, rfl⟩)

set_option maxRecDepth 100000 in
set_option maxHeartbeats 4000000 in
theorem bytes16_any (w : World) (a1 a2 : Option Addr) (n1 n2 c1 c2 : Nat) (S1 S2 : Nat → ByteArray) (a3 a4 a5 : Option Addr) (n3 n4 n5 c3 c4 c5 : Nat) (mc u : Int) (h1 : CRow w a1 n1 fun i => .string (S1 i)) (h2 : CRow w a2 n2 fun i => .string (S2 i)) (hn1 : n1 ≤ maxLen) (hn2 : n2 ≤ maxLen) :
    Calls Try.prog 16 #[.slice a1 n1 c1, .slice a2 n2 c2, .slice a3 n3 c3, .slice a4 n4 c4, .slice a5 n5 c5, .int .i64 mc, .int .u64 u] w fun e w' => SomeBool e ∧ w' = w := by
  have H1 := hidden h1
  have H2 := hidden h2
  clear h1 h2
  unfold maxLen at hn1 hn2
  go_enter Try.func16, Try.ntmps16
  go_wp2
  all_goals try (go_ret; exact ⟨⟨_, rfl⟩, rfl⟩)
  go_loop [15, 16] (fun v9 v10 => ∃ (k : Nat) (z : Int), k ≤ n1 ∧ v10 = .int .i64 (k : Int) ∧ v9 = .int .i64 z) (fun _ v10 => n1 - (intOf v10).toNat)
  case atStart => exact ⟨0, _, Nat.zero_le _, rfl, rfl⟩
  case round =>
    obtain ⟨k, z, hk, rfl, rfl⟩ := hrel
    by_cases hlt : k < n1
    · obtain ⟨b, off, rfl, _, cS⟩ := CRow.pick H1.out hlt
      have hkz : (k : Int) < (n1 : Int) := by omega
      go_wp2
      all_goals first
        | (go_ret; exact ⟨⟨_, rfl⟩, rfl⟩)
        | (go_round; (case rel => exact ⟨k + 1, _, by omega, by go_num, rfl⟩); (case measure => simp [intOf]; omega))
    · have hkz : decide ((k : Int) < (n1 : Int)) = false := by simp; omega
      go_wp2
      all_goals try (go_ret; exact ⟨⟨_, rfl⟩, rfl⟩)
      go_loop [15, 17] (fun v9 v10 => ∃ (k : Nat) (z : Int), k ≤ n2 ∧ v10 = .int .i64 (k : Int) ∧ v9 = .int .i64 z) (fun _ v10 => n2 - (intOf v10).toNat)
      case atStart => exact ⟨0, _, Nat.zero_le _, rfl, rfl⟩
      case round =>
        obtain ⟨j, y, hj, rfl, rfl⟩ := hrel
        by_cases hlt2 : j < n2
        · obtain ⟨b, off, rfl, _, cS⟩ := CRow.pick H2.out hlt2
          have hjz : (j : Int) < (n2 : Int) := by omega
          go_wp2
          all_goals first
            | (go_ret; exact ⟨⟨_, rfl⟩, rfl⟩)
            | (go_round; (case rel => exact ⟨j + 1, _, by omega, by go_num, rfl⟩); (case measure => simp [intOf]; omega))
        · have hjz : decide ((j : Int) < (n2 : Int)) = false := by simp; omega
          go_wp2
          all_goals (go_ret; exact ⟨⟨_, rfl⟩, rfl⟩)

end Go.Proofs.Qxb6615804a

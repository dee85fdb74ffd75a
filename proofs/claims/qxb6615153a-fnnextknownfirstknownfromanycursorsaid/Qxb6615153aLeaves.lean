import Derived.Test.Qxb6615153aPlain5
namespace Go.Proofs.Qxb6615153a
open Go.RowKit

/-- a slice of uint32 that reads zs -/
def URow (w : World) (a : Option Addr) (zs : List Nat) : Prop :=
  (∀ z ∈ zs, z < 4294967296) ∧ (zs.length = 0 ∨ ∃ b off, a = some ⟨b, off, none⟩ ∧ b < w.heap.size ∧ ∀ i, i < zs.length → w.cell? ⟨b, off + i, none⟩ = some (.int .u32 ((zs.getD i 0 : Nat) : Int)))

/-- a slice of slices of uint32 that reads ls -/
def LRow (w : World) (a : Option Addr) (n : Nat) (ls : List (List Nat)) : Prop :=
  ls.length = n ∧ (∀ m ∈ ls, m.length ≤ maxLen) ∧ (n = 0 ∨ ∃ b off, a = some ⟨b, off, none⟩ ∧ b < w.heap.size ∧ ∀ L, L < n → ∃ aL cL, w.cell? ⟨b, off + L, none⟩ = some (.slice aL (ls.getD L []).length cL) ∧ URow w aL (ls.getD L []))

theorem URow.pick {w : World} {a : Option Addr} {zs : List Nat} (h : URow w a zs) {i : Nat} (hi : i < zs.length) :
    ∃ b off, ∃ z : Nat, a = some ⟨b, off, none⟩ ∧ b < w.heap.size ∧ w.cell? ⟨b, off + i, none⟩ = some (.int .u32 (z : Int)) ∧ zs[i]? = some z ∧ z < 4294967296 := by
  obtain ⟨hw, h | ⟨b, off, ha, hb, hc⟩⟩ := h
  · omega
  · refine ⟨b, off, zs[i], ha, hb, ?_, by simp [hi], hw _ (List.getElem_mem _)⟩
    rw [hc i hi]; simp [hi]

theorem LRow.pick {w : World} {a : Option Addr} {n : Nat} {ls : List (List Nat)} (h : LRow w a n ls) {k : Nat} (hk : k < n) :
    ∃ b off aL cL m, a = some ⟨b, off, none⟩ ∧ b < w.heap.size ∧ w.cell? ⟨b, off + k, none⟩ = some (.slice aL m.length cL) ∧ ls[k]? = some m ∧ URow w aL m ∧ m.length ≤ maxLen := by
  obtain ⟨hl, hm, h | ⟨b, off, ha, hb, hc⟩⟩ := h
  · omega
  · have hk' : k < ls.length := by omega
    obtain ⟨aL, cL, hcell, hu⟩ := hc k hk
    have e : ls.getD k [] = ls[k] := by simp [hk']
    rw [e] at hcell hu
    exact ⟨b, off, aL, cL, ls[k], ha, hb, hcell, by simp [hk'], hu, hm _ (List.getElem_mem _)⟩

theorem URow.below {B : Nat} {w w' : World} {a : Option Addr} {zs : List Nat} (h : URow w a zs) (hb : Below B w w') (hB : w.heap.size ≤ B) : URow w' a zs := by
  obtain ⟨hl, h | ⟨b, off, ha, hlt, hc⟩⟩ := h
  · exact ⟨hl, .inl h⟩
  · exact ⟨hl, .inr ⟨b, off, ha, by have := hb.size; omega, fun i hi => (hb.cell (by show b < B; omega)).trans (hc i hi)⟩⟩

theorem LRow.below {B : Nat} {w w' : World} {a : Option Addr} {n : Nat} {ls : List (List Nat)} (h : LRow w a n ls) (hb : Below B w w') (hB : w.heap.size ≤ B) : LRow w' a n ls := by
  obtain ⟨hl, hm, h | ⟨b, off, ha, hlt, hc⟩⟩ := h
  · exact ⟨hl, hm, .inl h⟩
  · refine ⟨hl, hm, .inr ⟨b, off, ha, by have := hb.size; omega, fun i hi => ?_⟩⟩
    obtain ⟨aL, cL, h1, h2⟩ := hc i hi
    exact ⟨aL, cL, (hb.cell (by show b < B; omega)).trans h1, h2.below hb hB⟩

set_option maxHeartbeats 1000000 in
theorem bytes23_any (a : Option Addr) (n c : Nat) (ls : List (List Nat)) (c1 c2 c3 c4 : Int) (w : World) (hs : LRow w a n ls) (h1 : n ≤ maxLen) :
    Calls Try.prog 23 #[.slice a n c, .int .i64 c1, .int .i64 c2, .int .i64 c3, .int .i64 c4] w fun e w' => SomeBool e ∧ w' = w := by
  unfold maxLen at h1
  by_cases b1 : n ≤ 1048576
  case neg =>
    go_enter Try.func23, Try.ntmps23
    go_wp2
    go_ret
    exact ⟨⟨_, rfl⟩, rfl⟩
  go_enter Try.func23, Try.ntmps23
  go_wp2
  go_loop [11, 12] (fun t i => ∃ (k : Nat) (z : Int), k ≤ n ∧ i = .int .i64 k ∧ t = .int .i64 z ∧ 0 ≤ z ∧ z ≤ 1048576) (fun _ i => n - (intOf i).toNat)
  case atStart => exact ⟨0, _, Nat.zero_le _, rfl, rfl, by omega, by omega⟩
  case round =>
    obtain ⟨k, z, hk, rfl, rfl, hz0, hz1⟩ := hrel
    by_cases hlt : k < n
    · obtain ⟨b, off, aL, cL, m, rfl, hb, hc, _, _, hsz⟩ := hs.pick hlt
      unfold maxLen at hsz
      clear hs
      by_cases d1 : m.length ≤ 1048576
      · by_cases d2 : z + (m.length : Int) ≤ 1048576
        · go_wp2
          go_round
          case rel => exact ⟨k + 1, _, by omega, by go_num, rfl, by omega, by omega⟩
          case measure => simp [intOf]; omega
        · go_wp2
          go_ret
          exact ⟨⟨_, rfl⟩, rfl⟩
      · go_wp2
        go_ret
        exact ⟨⟨_, rfl⟩, rfl⟩
    · go_wp2
      go_ret
      exact ⟨⟨_, rfl⟩, rfl⟩

/-- 'true', or 'false' and every leaf is short -/
def Slim (ls : List (List Nat)) (n : Nat) (e : Ending) : Prop := e = .returned (.bool true) ∨ (e = .returned (.bool false) ∧ n ≤ 4096 ∧ ∀ (i : Nat) (m : List Nat), ls[i]? = some m → m.length ≤ 262144)

theorem slim_step {ls : List (List Nat)} {k : Nat} {s : List Nat} (h : ∀ (i : Nat) (s : List Nat), i < k → ls[i]? = some s → s.length ≤ 262144) (hs : ls[k]? = some s) (hb : s.length ≤ 262144) : ∀ (i : Nat) (s : List Nat), i < k + 1 → ls[i]? = some s → s.length ≤ 262144 := by
  intro i t hi ht
  by_cases e : i = k
  · subst e; rw [hs] at ht; obtain rfl := Option.some.inj ht; exact hb
  · exact h i t (by omega) ht

set_option maxHeartbeats 1000000 in
theorem big24_any (a : Option Addr) (n c : Nat) (ls : List (List Nat)) (w : World) (hs : LRow w a n ls) (h1 : n ≤ maxLen) :
    Calls Try.prog 24 #[.slice a n c] w fun e w' => Slim ls n e ∧ w' = w := by
  unfold maxLen at h1
  by_cases b1 : n ≤ 4096
  case neg =>
    go_enter Try.func24, Try.ntmps24
    go_wp2
    go_ret
    exact ⟨.inl rfl, rfl⟩
  go_enter Try.func24, Try.ntmps24
  go_wp2
  go_loop [3, 4] (fun t i => ∃ (k : Nat) (z : Int), k ≤ n ∧ i = .int .i64 k ∧ t = .int .i64 z ∧ 0 ≤ z ∧ z ≤ 1048576 ∧ ∀ (i : Nat) (s : List Nat), i < k → ls[i]? = some s → s.length ≤ 262144) (fun _ i => n - (intOf i).toNat)
  case atStart => exact ⟨0, _, Nat.zero_le _, rfl, rfl, by omega, by omega, fun i s h => absurd h (by omega)⟩
  case round =>
    obtain ⟨k, z, hk, rfl, rfl, hz0, hz1, hall⟩ := hrel
    have HA : Hid _ := hall
    clear hall
    by_cases hlt : k < n
    · obtain ⟨b, off, aL, cL, m, rfl, hb, hc, hsk, _, hsz⟩ := hs.pick hlt
      have HK : Hid _ := hsk
      clear hsk
      unfold maxLen at hsz
      clear hs
      by_cases d1 : m.length ≤ 262144
      · by_cases d2 : z + (24 + 4 * (m.length : Int)) ≤ 1048576
        · go_wp2
          go_round
          case rel => exact ⟨k + 1, _, by omega, by go_num, rfl, by omega, by omega, slim_step HA.out HK.out (by omega)⟩
          case measure => simp [intOf]; omega
        · go_wp2
          go_ret
          exact ⟨.inl rfl, rfl⟩
      · go_wp2
        go_ret
        exact ⟨.inl rfl, rfl⟩
    · have hl := hs.1
      clear hs
      go_wp2
      go_ret
      exact ⟨.inr ⟨rfl, b1, fun i s h => HA.out i s (by have := (List.getElem?_eq_some_iff.1 h).1; omega) h⟩, rfl⟩

end Go.Proofs.Qxb6615153a

import Derived.Test.Qxb6615153aLeaves
namespace Go.Proofs.Qxb6615153a
open Go.RowKit
set_option linter.unusedVariables false
set_option linter.unusedSimpArgs false

def beforeB (aL aI bL bI n : Int) : Bool := if aL = bL then (if n ≤ aL then false else decide (aI < bI)) else decide (aL < bL)

theorem before27 (aL aI bL bI n : Int) (w : World) :
    Calls Try.prog 27 #[.int .i64 aL, .int .i64 aI, .int .i64 bL, .int .i64 bI, .int .i64 n] w fun e w' => e = .returned (.bool (beforeB aL aI bL bI n)) ∧ w' = w := by
  by_cases h1 : aL = bL
  · subst h1
    by_cases h2 : n ≤ aL
    · have e : beforeB aL aI aL bI n = false := by simp [beforeB, h2]
      rw [e]
      go_enter Try.func27, Try.ntmps27
      go_wp2
      go_ret
      exact ⟨rfl, rfl⟩
    · have e : beforeB aL aI aL bI n = decide (aI < bI) := by simp [beforeB, h2]
      rw [e]
      go_enter Try.func27, Try.ntmps27
      go_wp2
      go_ret
      exact ⟨rfl, rfl⟩
  · have e : beforeB aL aI bL bI n = decide (aL < bL) := by simp [beforeB, h1]
    rw [e]
    have h1' : (aL != bL) = true := by simpa using h1
    go_enter Try.func27, Try.ntmps27
    go_wp2
    go_ret
    exact ⟨rfl, rfl⟩

/-- the step to the next position -/
theorem step37_in (a : Option Addr) (n c : Nat) (ls : List (List Nat)) (L i : Nat) (m : List Nat) (w : World) (hs : LRow w a n ls) (hL : L < n) (hm : ls[L]? = some m) (hi : i + 1 < m.length) (hb : m.length ≤ 262144) (hn : n ≤ 4096) :
    Calls Try.prog 37 #[.slice a n c, .int .i64 L, .int .i64 i] w fun e w' => e = .returned (.tuple #[.int .i64 L, .int .i64 (i + 1 : Nat)]) ∧ w' = w := by
  obtain ⟨b, off, aL, cL, m', rfl, _, hc, hm', _, _⟩ := hs.pick hL
  rw [hm] at hm'
  obtain rfl := Option.some.inj hm'
  clear hs hm hm'
  go_enter Try.func37, Try.ntmps37
  go_wp2
  go_ret2
  exact ⟨by simp, rfl⟩
theorem step37_out (a : Option Addr) (n c : Nat) (ls : List (List Nat)) (L i : Nat) (m : List Nat) (w : World) (hs : LRow w a n ls) (hL : L < n) (hm : ls[L]? = some m) (hi : ¬ i + 1 < m.length) (hb : m.length ≤ 262144) (hn : n ≤ 4096) (hi' : i < m.length) :
    Calls Try.prog 37 #[.slice a n c, .int .i64 L, .int .i64 i] w fun e w' => e = .returned (.tuple #[.int .i64 (L + 1 : Nat), .int .i64 0]) ∧ w' = w := by
  obtain ⟨b, off, aL, cL, m', rfl, _, hc, hm', _, _⟩ := hs.pick hL
  rw [hm] at hm'
  obtain rfl := Option.some.inj hm'
  clear hs hm hm'
  go_enter Try.func37, Try.ntmps37
  go_wp2
  go_ret2
  exact ⟨by simp, rfl⟩

def validB (ls : List (List Nat)) (L i : Int) : Bool :=
  decide (0 ≤ L ∧ L ≤ ls.length) && (decide (L = ls.length) || (decide (0 ≤ i) && decide (i < ((ls.getD L.toNat []).length : Int))))

theorem valid26 (a : Option Addr) (n c : Nat) (ls : List (List Nat)) (L i : Int) (w : World) (hs : LRow w a n ls) (hn : n ≤ 4096) :
    Calls Try.prog 26 #[.slice a n c, .int .i64 L, .int .i64 i] w fun e w' => e = .returned (.bool (validB ls L i)) ∧ w' = w := by
  have hl := hs.1
  by_cases h1 : L < 0
  · have e : validB ls L i = false := by simp [validB]; omega
    rw [e]
    have hd : decide (L < 0) = true := by simpa using h1
    clear hs
    go_enter Try.func26, Try.ntmps26
    go_wp2
    go_ret
    exact ⟨rfl, rfl⟩
  have hd : decide (L < 0) = false := by simpa using h1
  by_cases h2 : (n : Int) < L
  · have e : validB ls L i = false := by simp [validB]; omega
    rw [e]
    clear hs
    go_enter Try.func26, Try.ntmps26
    go_wp2
    go_ret
    exact ⟨rfl, rfl⟩
  by_cases h3 : L = (n : Int)
  · have e : validB ls L i = true := by simp [validB, h3, hl]
    rw [e]
    subst h3
    clear hs e
    go_enter Try.func26, Try.ntmps26
    go_wp2
    go_ret
    exact ⟨rfl, rfl⟩
  obtain ⟨k, rfl⟩ : ∃ k : Nat, L = k := Int.eq_ofNat_of_zero_le (by omega)
  obtain ⟨b, off, aL, cL, m, rfl, _, hc, hm, _, hsz⟩ := hs.pick (show k < n by omega)
  unfold maxLen at hsz
  have e : validB ls k i = (decide (0 ≤ i) && decide (i < (m.length : Int))) := by
    have h4 : ¬ (k : Int) = (ls.length : Int) := by omega
    simp [validB, h4, hm]
    omega
  rw [e]
  clear hs e hm
  by_cases h5 : 0 ≤ i
  · have hd5 : decide (0 ≤ i) = true := by simpa using h5
    go_enter Try.func26, Try.ntmps26
    go_wp2
    go_ret
    exact ⟨by simp [h5], rfl⟩
  · have hd5 : decide (0 ≤ i) = false := by simpa using h5
    go_enter Try.func26, Try.ntmps26
    go_wp2
    go_ret
    exact ⟨by simp [h5], rfl⟩

end Go.Proofs.Qxb6615153a

import Derived.Test.Qxb6615804aNew
namespace Go.Proofs.Qxb6615804a
open Go.RowKit
set_option linter.unusedVariables false
set_option linter.unusedSimpArgs false

/-- the end before k -/
def pv (E : Nat → Int) (k : Nat) : Int := if k = 0 then 0 else E (k - 1)

/-- a chunking that passed -/
structure GE (E : Nat → Int) (K n : Nat) : Prop where
  none : n = 0 → K = 0
  last : n ≠ 0 → 0 < K ∧ E (K - 1) = (n : Int)
  up : ∀ k, k < K → pv E k < E k ∧ E k ≤ (n : Int)

/-- what zzEndsOK answers -/
def EndsR (E : Nat → Int) (K n : Nat) (e : Ending) : Prop := ∃ r : Bool, e = .returned (.bool r) ∧ (r = true → GE E K n)

theorem EndsR.no (E : Nat → Int) (K n : Nat) : EndsR E K n (.returned (.bool false)) := ⟨false, rfl, by simp⟩

theorem ge_step {E : Nat → Int} {k : Nat} {n : Nat} (h : ∀ j, j < k → pv E j < E j ∧ E j ≤ (n : Int)) (h1 : pv E k < E k) (h2 : E k ≤ (n : Int)) : ∀ j, j < k + 1 → pv E j < E j ∧ E j ≤ (n : Int) := by
  intro j hj
  by_cases e : j = k
  · subst e; exact ⟨h1, h2⟩
  · exact h j (by omega)

theorem pv_succ (E : Nat → Int) (k : Nat) : pv E (k + 1) = E k := by simp [pv]

theorem pv_nonneg {E : Nat → Int} {k n : Nat} (h : ∀ j, j < k → pv E j < E j ∧ E j ≤ (n : Int)) : 0 ≤ pv E k := by
  induction k with
  | zero => simp [pv]
  | succ k ih =>
    have := ih (fun j hj => h j (by omega))
    have := (h k (by omega)).1
    rw [pv_succ]
    omega

set_option maxHeartbeats 1000000 in
theorem ends_any (w : World) (a : Option Addr) (K n c : Nat) (E : Nat → Int) (mc : Int) (hE : CRow w a K fun k => .int .i64 (E k)) (hK : K ≤ 4096) (hn : n ≤ 4096) (hm1 : -9223372036854775808 ≤ mc) (hm2 : mc ≤ 9223372036854775807) :
    Calls Try.prog 9 #[.slice a K c, .int .i64 (n : Int), .int .i64 mc] w fun e w' => EndsR E K n e ∧ w' = w := by
  by_cases hmc : mc < 1
  · go_enter Try.func9, Try.ntmps9
    go_wp2
    go_ret
    exact ⟨EndsR.no _ _ _, rfl⟩
  by_cases hn0 : n = 0
  · subst hn0
    go_enter Try.func9, Try.ntmps9
    go_wp2
    go_ret
    refine ⟨⟨_, rfl, fun h => ⟨fun _ => by simpa using h, by simp, fun k hk => ?_⟩⟩, rfl⟩
    simp at h
    omega
  have hnb : ((n : Int) == 0) = false := by simp; omega
  rcases Nat.eq_zero_or_pos K with rfl | hpos
  · go_enter Try.func9, Try.ntmps9
    go_wp2
    go_ret
    exact ⟨EndsR.no _ _ _, rfl⟩
  obtain ⟨J, rfl⟩ : ∃ J, K = J + 1 := ⟨K - 1, by omega⟩
  obtain ⟨b, off, rfl, hb, cL⟩ := CRow.pick hE (i := J) (by omega)
  have fJ : ((J : Int) + 1 == 0) = false := by simp; omega
  have wJ : IntKind.i64.wrap (J : Int) = (J : Int) := by rw [IntKind.wrap_i64]; omega
  have wJ' : IntKind.i64.wrap ((J : Int) + 1 - 1) = (J : Int) := by rw [IntKind.wrap_i64]; omega
  have lJ : (J : Int) < (J : Int) + 1 := by omega
  by_cases hlast : E J = (n : Int)
  case neg =>
    have HE := hidden hE
    clear hE
    have hlb : (E J == (n : Int)) = false := by simp [hlast]
    have hlb' : (E J != (n : Int)) = true := by simp [hlast]
    go_enter Try.func9, Try.ntmps9
    go_wp2
    go_ret
    exact ⟨EndsR.no _ _ _, rfl⟩
  have HE := hidden hE
  have HL := hidden hlast
  rw [hlast] at cL
  clear hE hlast
  go_enter Try.func9, Try.ntmps9
  go_wp2
  go_loop [7, 8, 9] (fun v7 v8 v9 => ∃ (k : Nat) (z : Int), k ≤ J + 1 ∧ v7 = .int .i64 (pv E k) ∧ v8 = .int .i64 z ∧ v9 = .int .i64 (k : Int) ∧ 0 ≤ z ∧ z ≤ 4096 ∧ ∀ j, j < k → pv E j < E j ∧ E j ≤ (n : Int)) (fun _ _ v9 => J + 1 - (intOf v9).toNat)
  case atStart => exact ⟨0, 0, Nat.zero_le _, by simp [pv], rfl, rfl, by omega, by omega, fun j hj => absurd hj (by omega)⟩
  case round =>
    obtain ⟨k, z, hk, rfl, rfl, rfl, hz0, hz1, hall⟩ := hrel
    have hp0 := pv_nonneg hall
    have HA := hidden hall
    clear hall
    by_cases hlt : k < J + 1
    · obtain ⟨b', off', ha, _, cE⟩ := CRow.pick HE.out hlt
      simp only [Option.some.injEq, Addr.mk.injEq, and_true] at ha
      obtain ⟨rfl, rfl⟩ := ha
      have hkz : (k : Int) < (J : Int) + 1 := by omega
      obtain ⟨q, hq⟩ : ∃ q, q = pv E k := ⟨_, rfl⟩
      obtain ⟨x, hx⟩ : ∃ x, x = E k := ⟨_, rfl⟩
      rw [← hq] at hp0
      simp only [← hx] at cE
      rw [← hq]
      have HQ := hidden hq
      have HX := hidden hx
      clear hq hx cL
      by_cases d1 : x ≤ q
      · go_wp2
        go_ret
        exact ⟨EndsR.no _ _ _, rfl⟩
      by_cases d2 : (n : Int) < x
      · go_wp2
        go_ret
        exact ⟨EndsR.no _ _ _, rfl⟩
      have w1 : IntKind.i64.wrap (x - q) = x - q := by rw [IntKind.wrap_i64]; omega
      have w2 : IntKind.i64.wrap (x - q + z) = x - q + z := by rw [IntKind.wrap_i64]; omega
      by_cases d3 : mc < x - q
      · go_wp2
        go_ret
        exact ⟨EndsR.no _ _ _, rfl⟩
      by_cases d4 : 0 < k
      · have d4z : (0 : Int) < (k : Int) := by omega
        go_wp2
        · go_ret
          exact ⟨EndsR.no _ _ _, rfl⟩
        · go_round
          case rel => exact ⟨k + 1, x - q, by omega, by rw [pv_succ, HX.out], rfl, by go_num, by omega, by omega, ge_step HA.out (by rw [← HQ.out, ← HX.out]; omega) (by rw [← HX.out]; omega)⟩
          case measure => simp [intOf]; omega
      · have d4z : decide ((0 : Int) < (k : Int)) = false := by simp; omega
        go_wp2
        · go_round
          case rel => exact ⟨k + 1, x - q, by omega, by rw [pv_succ, HX.out], rfl, by go_num, by omega, by omega, ge_step HA.out (by rw [← HQ.out, ← HX.out]; omega) (by rw [← HX.out]; omega)⟩
          case measure => simp [intOf]; omega
    · go_wp2
      go_ret
      have e : k = J + 1 := by omega
      subst e
      exact ⟨⟨true, rfl, fun _ => ⟨fun h => absurd h hn0, fun _ => ⟨by omega, by simpa using HL.out⟩, HA.out⟩⟩, rfl⟩

end Go.Proofs.Qxb6615804a

import Derived.Test.Qxb6615153aPos
namespace Go.Proofs.Qxb6615153a
open Go.RowKit
set_option linter.unusedVariables false
set_option linter.unusedSimpArgs false

/-- the slot that the i-th mark names -/
def sl (m : List Nat) (i : Nat) : Nat := m.getD i 0 / 16777216

theorem sl_at {m : List Nat} {i z : Nat} (h : m[i]? = some z) : sl m i = z / 16777216 := by
  unfold sl; rw [List.getD_eq_getElem?_getD, h]; rfl

/-- a leaf's marks: one to 128, their slots each slot once -/
structure Fit (m : List Nat) : Prop where
  pos : 0 < m.length
  room : m.length ≤ 128
  lt : ∀ i, i < m.length → sl m i < m.length
  inj : ∀ i j, i < m.length → j < m.length → sl m i = sl m j → i = j

theorem slot53 (z : Int) (w : World) (h0 : 0 ≤ z) (h1 : z < 4294967296) :
    Calls Try.prog 53 #[.int .u32 z] w fun e w' => e = .returned (.int .i64 (z / 16777216)) ∧ w' = w := by
  go_enter Try.func53, Try.ntmps53
  go_wp2
  go_ret
  exact ⟨rfl, rfl⟩

set_option maxHeartbeats 1000000 in
theorem index36 (a : Option Addr) (c : Nat) (m : List Nat) (t : Nat) (w : World) (hu : URow w a m) (hf : Fit m) (ht : t < m.length) (s : Int) (hs : s = (sl m t : Int)) :
    Calls Try.prog 36 #[.slice a m.length c, .int .i64 s] w fun e w' => e = .returned (.int .i64 t) ∧ w' = w := by
  have hroom := hf.room
  have HU : Hid _ := hu
  have HF : Hid _ := hf
  clear hu hf
  have HS : Hid _ := hs
  clear hs
  go_enter Try.func36, Try.ntmps36
  go_wp2
  go_loop [5] (fun i => ∃ k : Nat, k ≤ t ∧ i = .int .i64 k) (fun i => m.length - (intOf i).toNat)
  case atStart => exact ⟨0, Nat.zero_le _, rfl⟩
  case round =>
    obtain ⟨k, hk, rfl⟩ := hrel
    obtain ⟨b, off, z, rfl, hb, hc, hz, hzb⟩ := URow.pick HU.out (show k < m.length by omega)
    have ez := sl_at hz
    by_cases e : k = t
    · have hq : ((z : Int) / 16777216 == s) = true := by
        have h1 : ((z / 16777216 : Nat) : Int) = s := by rw [HS.out, ← ez, e]
        simp; omega
      subst e
      clear ez hz
      go_wp2
      go_ret
      exact ⟨rfl, rfl⟩
    · have hq : ((z : Int) / 16777216 == s) = false := by
        have h1 : ¬ ((z / 16777216 : Nat) : Int) = s := by
          rw [HS.out, ← ez]
          intro h
          exact e (HF.out.inj k t (by omega) ht (by omega))
        simp; omega
      clear ez hz
      go_wp2
      go_round
      case rel => exact ⟨k + 1, by omega, by go_num⟩
      case measure => simp [intOf]; omega

end Go.Proofs.Qxb6615153a

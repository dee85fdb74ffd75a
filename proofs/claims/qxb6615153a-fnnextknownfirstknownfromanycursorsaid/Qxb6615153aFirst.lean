import Derived.Test.Qxb6615153aZZ
namespace Go.Proofs.Qxb6615153a
open Go.RowKit
set_option linter.unusedVariables false
set_option linter.unusedSimpArgs false

/-- a valid position: an item of a leaf, or the end -/
structure At (ls : List (List Nat)) (L i : Nat) (iv : Int) : Prop where
  le : L ≤ ls.length
  pos : ∀ m, ls[L]? = some m → i < m.length ∧ iv = (i : Int)

/-- a measure: so many positions are to come -/
def meas (n : Nat) (a b : Value) : Nat := (n - (intOf a).toNat) * 129 - (intOf b).toNat

theorem nlt_in {L' i' L i : Nat} (h : ¬ Lt L' i' L i) : ¬ Lt L' (i' + 1) L i := by unfold Lt at *; omega
theorem nlt_out {L' i' L i : Nat} (h : ¬ Lt L' i' L i) : ¬ Lt (L' + 1) 0 L i := by unfold Lt at *; omega

theorem LRow.at_pos {w : World} {a : Option Addr} {n : Nat} {ls : List (List Nat)} (hs : LRow w a n ls) {L i : Nat} (hL : L < n) {m : List Nat} (hm : ls[L]? = some m) (hi : i < m.length) :
    ∃ b off aL cL b2 off2, ∃ z : Nat, a = some ⟨b, off, none⟩ ∧ aL = some ⟨b2, off2, none⟩ ∧ w.cell? ⟨b, off + L, none⟩ = some (.slice aL m.length cL) ∧ w.cell? ⟨b2, off2 + i, none⟩ = some (.int .u32 (z : Int)) ∧ m.getD i 0 = z ∧ z < 4294967296 ∧ URow w aL m := by
  obtain ⟨b, off, aL, cL, m', ha, _, hc, hm', hu, _⟩ := hs.pick hL
  rw [hm] at hm'
  obtain rfl := Option.some.inj hm'
  obtain ⟨b2, off2, z, ha2, _, hc2, hz, hzb⟩ := hu.pick hi
  exact ⟨b, off, aL, cL, b2, off2, z, ha, ha2, hc, hc2, by rw [List.getD_eq_getElem?_getD, hz]; rfl, hzb, hu⟩

set_option maxRecDepth 100000 in
set_option maxHeartbeats 1000000 in
theorem first32_none (a : Option Addr) (n c : Nat) (ls : List (List Nat)) (L i : Nat) (iv : Int) (r : Nat) (w : World) (hs : LRow w a n ls) (hn : n ≤ 4096) (hf : ∀ m ∈ ls, Fit m) (hat : At ls L i iv) (hno : NoneFrom ls L i n 0) :
    Calls Try.prog 32 #[.slice a n c, .int .i64 (L : Int), .int .i64 iv, .pointer (some ⟨r, 0, none⟩), .pointer none, .int .i32 0] w fun e w' => e = .returned (.tuple #[.bool true, .int .i64 (n : Int), .int .i64 0]) ∧ w' = w := by
  have HS : Hid (LRow w a n ls) := hs
  have HF : Hid _ := hf
  have HA : Hid _ := hat
  have HN : Hid _ := hno
  have hl := hs.1
  clear hs hf hat hno
  go_enter Try.func32, Try.ntmps32
  go_wp2
  go_loop [16, 17] (fun t u => ∃ (L' i' : Nat) (iv' : Int), t = .int .i64 (L' : Int) ∧ u = .int .i64 iv' ∧ At ls L' i' iv' ∧ ¬ Lt L' i' L i) (fun t u => meas n t u)
  case atStart => exact ⟨L, i, iv, rfl, rfl, HA.out, by unfold Lt; omega⟩
  case round =>
    obtain ⟨L', i', iv', rfl, rfl, hat, hfr⟩ := hrel
    by_cases hlt : L' < n
    · obtain ⟨m, hm⟩ : ∃ m, ls[L']? = some m := ⟨_, List.getElem?_eq_getElem (by omega)⟩
      obtain ⟨hi', rfl⟩ := hat.pos m hm
      obtain ⟨b, off, aL, cL, b2, off2, z, rfl, rfl, c1, c2, hz, hzb, _⟩ := LRow.at_pos HS.out hlt hm hi'
      have hroom := (HF.out m (List.mem_of_getElem? hm)).room
      have hk : z % 2 = 0 := by
        have h1 := HN.out L' i' hfr (.inl hlt)
        have h2 : ¬ m.getD i' 0 % 2 = 1 := fun h => h1 ⟨m, hm, hi', h⟩
        rw [hz] at h2; omega
      have hand : bits BinOp.and IntKind.u32 (z : Int) 1 = 0 := by rw [and_known hzb, hk]; rfl
      have HM : Hid _ := hm
      have HFR : Hid _ := hfr
      clear hm hat hz hk hfr
      by_cases hlast : i' + 1 < m.length
      · go_wp2_with fail
        refine (step37_in _ n c ls L' i' m w HS.out hlt HM.out hlast (by omega) hn).mono ?_
        rintro e w2 ⟨rfl, rfl⟩
        clear c1 c2 hand
        go_wp2
        go_round
        case rel => exact ⟨L', i' + 1, _, rfl, rfl, ⟨by omega, fun m' hm' => by rw [HM.out] at hm'; obtain rfl := Option.some.inj hm'; exact ⟨hlast, by simp⟩⟩, nlt_in HFR.out⟩
        case measure => simp [meas, intOf]; omega
      · go_wp2_with fail
        refine (step37_out _ n c ls L' i' m w HS.out hlt HM.out hlast (by omega) hn hi').mono ?_
        rintro e w2 ⟨rfl, rfl⟩
        clear c1 c2 hand
        go_wp2
        go_round
        case rel => exact ⟨L' + 1, 0, 0, by go_num, rfl, ⟨by omega, fun m' hm' => ⟨(HF.out m' (List.mem_of_getElem? hm')).pos, rfl⟩⟩, nlt_out HFR.out⟩
        case measure => simp [meas, intOf]; omega
    · go_wp2
      go_ret3
      exact ⟨rfl, rfl⟩

end Go.Proofs.Qxb6615153a

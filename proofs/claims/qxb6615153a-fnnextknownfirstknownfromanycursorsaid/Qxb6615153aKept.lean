import Derived.Test.Qxb6615153aVis
namespace Go.Proofs.Qxb6615153a
open Go.RowKit
set_option linter.unusedVariables false
set_option linter.unusedSimpArgs false

set_option maxRecDepth 100000 in
set_option maxHeartbeats 1000000 in
theorem kept34 {w : World} {ls : List (List Nat)} {r B gN gI k : Nat} {idx : Nat → Nat → Int} {nb : Nat → Nat} {it : Nat → Nat → Nat} (h : LayK w ls r B gN gI k idx nb it) (hf : ∀ m ∈ ls, Fit m) {gV : Nat} {vis : Nat → Nat → Bool} (hv : Vis w ls gV vis)
    (a : Option Addr) (n c : Nat) (hs : LRow w a n ls) (hn : n ≤ 4096) (hgood : ∀ L m i, ls[L]? = some m → i < m.length → idx L (sl m i) = if vis L i then (i : Int) else (sl m i : Int)) :
    Calls Try.prog 34 #[.slice a n c, .slice (some ⟨gI, 0, none⟩) n n, .slice (some ⟨gV, 0, none⟩) n n] w fun e w' => e = .returned (.bool true) ∧ w' = w := by
  have hl := hs.1
  have H : Hid (LayK w ls r B gN gI k idx nb it) := h
  have HF : Hid _ := hf
  have HV : Hid (Vis w ls gV vis) := hv
  have HS : Hid (LRow w a n ls) := hs
  have HG : Hid _ := hgood
  have HL : Hid _ := hl
  clear h hf hv hs hgood hl
  go_enter Try.func34, Try.ntmps34
  go_wp2
  go_loop [7] (fun t => ∃ L : Nat, L ≤ n ∧ t = .int .i64 (L : Int)) (fun t => n - (intOf t).toNat)
  case atStart => exact ⟨0, Nat.zero_le _, rfl⟩
  case round =>
    obtain ⟨L, hL, rfl⟩ := hrel
    by_cases hlt : L < n
    · obtain ⟨b, off, aL, cL, m, rfl, _, hc, hm, _, _⟩ := LRow.pick HS.out hlt
      have hroom := (HF.out m (List.mem_of_getElem? hm)).room
      have HM : Hid _ := hm
      clear hm
      go_wp2
      go_loop [8] (fun t => ∃ i : Nat, i ≤ m.length ∧ t = .int .i64 (i : Int)) (fun t => m.length - (intOf t).toNat)
      case atStart => exact ⟨0, Nat.zero_le _, rfl⟩
      case round =>
        obtain ⟨i, hi, rfl⟩ := hrel
        by_cases hil : i < m.length
        · obtain ⟨b', off', aL', cL', b2, off2, z, ha', ha2, c1, c2, hz, hzb, _⟩ := LRow.at_pos HS.out hlt HM.out hil
          simp only [Option.some.injEq, Addr.mk.injEq, and_true] at ha'
          obtain ⟨rfl, rfl⟩ := ha'
          rw [hc] at c1
          simp only [Option.some.injEq, Value.slice.injEq, true_and] at c1
          obtain ⟨rfl, _⟩ := c1
          subst ha2
          have hsl := (HF.out m (List.mem_of_getElem? HM.out)).lt i hil
          have esl : sl m i = z / 16777216 := by unfold sl; rw [hz]
          obtain ⟨_, aM, cM, aI, cI, ib, hleaf⟩ := H.out L m HM.out
          have d1 := hleaf.its
          have d2 := hleaf.itsAt _ hsl
          have d3 := (hleaf.itI _ hsl).2.2.1
          obtain ⟨v1, v2, _⟩ := Vis.at_pos HV.out HM.out hil
          have hgd := HG.out L m i HM.out hil
          rw [hgd] at d3
          rw [esl] at d2 d3 hsl
          clear hgd esl hleaf hz
          have i1 : (z : Int) / 16777216 < (m.length : Int) := by omega
          obtain ⟨p, hp⟩ : ∃ p, p = it L (z / 16777216) := ⟨_, rfl⟩
          rw [← hp] at d2 d3
          clear hp
          cases hvis : vis L i with
          | true =>
            rw [hvis] at d3 v2
            simp only [if_true] at d3
            clear hvis
            go_wp2_with fail
            refine (idx48 p (i : Int) w d3).mono ?_
            rintro e w2 ⟨rfl, rfl⟩
            clear d1 d2 d3 v1 v2 c2
            go_wp2
            go_round
            case rel => exact ⟨i + 1, by omega, by go_num⟩
            case measure => simp [intOf]; omega
          | false =>
            rw [hvis] at d3 v2
            simp only [Bool.false_eq_true, if_false] at d3
            clear hvis
            go_wp2_with fail
            refine (idx48 p _ w d3).mono ?_
            rintro e w2 ⟨rfl, rfl⟩
            clear d1 d2 d3 v1 v2 c2
            go_wp2
            go_round
            case rel => exact ⟨i + 1, by omega, by go_num⟩
            case measure => simp [intOf]; omega
        · go_wp2
          go_round
          case rel => exact ⟨L + 1, by omega, by go_num⟩
          case measure => simp [intOf]; omega
    · go_wp2
      go_ret
      exact ⟨rfl, rfl⟩

end Go.Proofs.Qxb6615153a

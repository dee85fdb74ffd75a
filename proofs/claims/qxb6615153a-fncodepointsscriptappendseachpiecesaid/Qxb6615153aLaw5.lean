import Derived.Test.Qxb6615153aPlain5
namespace Go.Proofs.Qxb6615153a
open Go.RowKit

set_option maxRecDepth 100000 in
set_option maxHeartbeats 2000000 in
theorem law5 (a0 : Option Addr) (n0 k0 : Nat) (z0 : List Int) (a1 : Option Addr) (n1 k1 : Nat) (ss : List ByteArray) (w : World) (h0 : BRow w a0 n0 z0) (h0n : a0 = none → n0 = 0) (hs : SRow w a1 n1 ss) (m0 : n0 ≤ maxLen) (m1 : n1 ≤ maxLen) :
    Calls Try.prog 5 #[.slice a0 n0 k0, .slice a1 n1 k1] w fun e w' => e = .returned (.bool true) ∧ Below w.heap.size w w' := by
  have M0 := m0
  have M1 := m1
  unfold maxLen at m0 m1
  go_enter Try.func5, Try.ntmps5
  go_wp2_with fail
  refine (bytes22_any a0 n0 k0 a1 n1 k1 ss w hs M0 M1).mono ?_
  rintro e w' ⟨rfl | ⟨rfl, hsm⟩, rfl⟩
  case inl =>
    clear M0 M1
    go_wp2
    go_ret
    exact ⟨rfl, Below.refl _ _⟩
  have HSM : Hid _ := hsm
  clear M0 M1 hsm
  by_cases b0 : n0 ≤ 262144
  case neg =>
    go_wp2
    go_ret
    exact ⟨rfl, Below.refl _ _⟩
  by_cases b1 : n1 ≤ 16384
  case neg =>
    go_wp2
    go_ret
    exact ⟨rfl, Below.refl _ _⟩
  go_wp2
  go_loop [5, 6] (fun t i => ∃ (k : Nat), k ≤ n1 ∧ i = .int .i64 k ∧ t = .int .i64 (n0 + 16 * k + tot ss k : Nat) ∧ n0 + 16 * k + tot ss k ≤ 1048576) (fun _ i => n1 - (intOf i).toNat)
  case atStart => exact ⟨0, Nat.zero_le _, rfl, by rw [tot_zero]; go_num, by rw [tot_zero]; omega⟩
  case round =>
    obtain ⟨k, hk, rfl, rfl, ht⟩ := hrel
    by_cases hlt : k < n1
    · obtain ⟨b, off, s, rfl, hb, hc, hsk, _⟩ := hs.pick hlt
      have hts : Hid _ := tot_succ ss k s hsk
      have hsz : s.size ≤ 1048576 := HSM.out k s hsk
      clear hsk
      by_cases d2 : n0 + 16 * k + tot ss k + (16 + s.size) ≤ 1048576
      · have HS : Hid _ := hs
        clear hs
        go_wp2
        go_round
        case rel => exact ⟨k + 1, by omega, by go_num, by rw [hts.out]; go_num, by rw [hts.out]; omega⟩
        case measure => simp [intOf]; omega
      · clear hs
        go_wp2
        go_ret
        exact ⟨rfl, Below.refl _ _⟩
    · obtain rfl : n1 = k := by omega
      have hl0 := h0.1
      go_wp2_with fail
      refine (copy_any a0 n0 k0 z0 _ (by omega) h0 h0n).mono ?_
      rintro e w2 ⟨ao, c2, rfl, hao, hB2, _, hbel⟩
      have hs2 := hs.below hbel (Nat.le_refl _)
      clear h0 h0n hs
      go_wp2_with fail
      refine (copy_any ao n0 c2 z0 w2 (by omega) hB2 hao).mono ?_
      rintro e w3 ⟨ao3, c3, rfl, _, _, hown3, hbel3⟩
      go_wp2_with fail
      refine (new_any none 0 0 ao3 n0 c3 0 0 0 0 0 0 w3).mono ?_
      rintro e w4 ⟨rfl, hw4, hw4e⟩
      have HI : Hid (Inv5 w2 w3.heap.size z0 ss 0 w4) := inv5_start hl0 hown3 hbel3 hw4 _ hw4e
      clear hown3 hbel3 hw4 hw4e
      obtain ⟨g, hg⟩ : ∃ g, g = w3.heap.size := ⟨_, rfl⟩
      rw [← hg] at HI ⊢
      clear hg
      have HL : Hid _ := hl0
      clear hl0
      go_wp2
      go_loopw [8, 9] (fun t i wr => ∃ (k : Nat), k ≤ n1 ∧ i = .int .i64 k ∧ t = .int .i64 (n0 + tot ss k : Nat) ∧ Inv5 w2 g z0 ss k wr) (fun _ i _ => n1 - (intOf i).toNat)
      case atStart => exact ⟨0, Nat.zero_le _, rfl, by rw [tot_zero]; go_num, HI.out⟩
      case round =>
        clear HI
        obtain ⟨k, hk, rfl, rfl, hI⟩ := hrel
        have htm := tot_mono ss hk
        by_cases hlt : k < n1
        · obtain ⟨b, off, s, rfl, hb, hc, hsk, _⟩ := hs2.pick hlt
          have hts := tot_succ ss k s hsk
          have htm1 := tot_mono ss (show k + 1 ≤ n1 by omega)
          rw [hts] at htm1
          have HTS : Hid _ := hts
          have hsz : s.size ≤ 1048576 := HSM.out k s hsk
          have HSK : Hid _ := hsk
          obtain ⟨v1, hwr, hown, hbl, hgg⟩ := hI
          have hc' : wr.cell? ⟨b, off + k, none⟩ = some (.string s) := (hbl.cell (by exact hb)).trans hc
          have hlz := HL.out
          clear hts hsk hc
          go_wp2_with fail
          refine (zzcp_any g w2.heap.size (.slice none 0 0) v1 0 0 0 0 0 0 _ _ s wr hwr hown hbl.size (by omega)).mono ?_
          rintro e w5 ⟨rfl, v1', hwr', hown', _, hkept⟩
          have HI : Hid (∀ m, Inv5 w2 g z0 ss (k + 1) (w5.drewN m)) := inv5_step HSK.out hown hbl hgg hwr' hown' hkept
          obtain ⟨ao5, c5, hv5, _⟩ := slice_of_own hown'
          subst hv5
          have HO : Hid _ := hown'
          clear hwr hown hbl hkept hown' hc'
          rw [hlz] at HO hwr'
          clear hlz
          go_wp2_with fail
          refine (fields_any g _ _ 0 0 0 0 0 0 w5 hwr').mono ?_
          rintro e w6 ⟨rfl, m, rfl⟩
          clear hwr'
          go_wp2
          go_loopw [19] (fun i wq => ∃ j : Nat, j ≤ s.size ∧ i = .int .i64 j ∧ ∃ m', wq = w5.drewN m') (fun i _ => s.size - (intOf i).toNat)
          case atStart => exact ⟨0, Nat.zero_le _, rfl, _, rfl⟩
          case round =>
            obtain ⟨j, hj, rfl, m', hwq⟩ := hrel
            subst hwq
            by_cases hjl : j < s.size
            · obtain ⟨gv, rfl, hcj⟩ := new_at HL.out HO.out hjl
              have hi1 : (n0 : Int) + (tot ss k : Int) + (j : Int) < (n0 : Int) + (tot ss k : Int) + (s.size : Int) := by omega
              have hi2 : (j : Int) < (s.size : Int) := by omega
              go_wp2
              go_quiet (fail)
              go_wp2
              go_roundw
              case rel => exact ⟨j + 1, by omega, by go_num, _, rfl⟩
              case measure => simp [intOf]; omega
            · go_wp2
              go_roundw
              case rel => exact ⟨k + 1, by omega, by go_num, by rw [HTS.out]; go_num, HI.out _⟩
              case measure => simp [intOf]; omega
        · obtain rfl : n1 = k := by omega
          obtain ⟨v1, hwr, hown, hbl, hgg⟩ := hI
          obtain ⟨ao5, c5, hv5, _⟩ := slice_of_own hown
          subst hv5
          have HO : Hid _ := hown
          rw [HL.out] at HO hwr
          have HB : Hid _ := hbl
          have HBR : Hid _ := hB2.below hbl (Nat.le_refl _)
          have HSR : Hid _ := hs2.below hbl (Nat.le_refl _)
          have HF : Hid (Below w'.heap.size w' wr) := hbel.trans (hbl.mono hbel.size)
          clear hown hbl hB2 hs2 hbel
          go_wp2_with fail
          refine (fields_any g _ _ 0 0 0 0 0 0 wr hwr).mono ?_
          rintro e w6 ⟨rfl, m, rfl⟩
          clear hwr
          go_wp2
          go_loopw [28] (fun i wq => ∃ j : Nat, j ≤ n0 ∧ i = .int .i64 j ∧ ∃ m', wq = wr.drewN m') (fun i _ => n0 - (intOf i).toNat)
          case atStart => exact ⟨0, Nat.zero_le _, rfl, _, rfl⟩
          case round =>
            obtain ⟨j, hj, rfl, m', hwq⟩ := hrel
            subst hwq
            by_cases hjl : j < n0
            · obtain ⟨gv, rfl, hcj⟩ := (all_at HL.out HO.out).1 j hjl
              obtain ⟨bb, boff, rfl, hcb⟩ : ∃ b off, ao = some ⟨b, off, none⟩ ∧ wr.cell? ⟨b, off + j, none⟩ = some (.int .u8 (z0.getD j 0)) := by
                rcases HBR.out.2 with h | ⟨b, off, h1, _, h2⟩
                · omega
                · exact ⟨b, off, h1, h2 j hjl⟩
              have hi1 : (j : Int) < (n0 : Int) + (tot ss n1 : Int) := by omega
              have hi2 : (j : Int) < (n0 : Int) := by omega
              go_wp2
              go_quiet (fail)
              go_wp2
              go_roundw
              case rel => exact ⟨j + 1, by omega, by go_num, _, rfl⟩
              case measure => simp [intOf]; omega
            · go_wp2
              go_loopw [29, 30] (fun t i wq => ∃ k : Nat, k ≤ n1 ∧ i = .int .i64 k ∧ t = .int .i64 (n0 + tot ss k : Nat) ∧ ∃ m', wq = wr.drewN m') (fun _ i _ => n1 - (intOf i).toNat)
              case atStart => exact ⟨0, Nat.zero_le _, rfl, by rw [tot_zero]; go_num, _, rfl⟩
              case round =>
                obtain ⟨k, hk, rfl, rfl, m'', hwq⟩ := hrel
                subst hwq
                have htm := tot_mono ss hk
                by_cases hlt : k < n1
                · obtain ⟨b, off, s, rfl, hb, hc, hsk, _⟩ := SRow.pick HSR.out hlt
                  have hts := tot_succ ss k s hsk
                  have htm1 := tot_mono ss (show k + 1 ≤ n1 by omega)
                  rw [hts] at htm1
                  have HTS : Hid _ := hts
                  have hsz : s.size ≤ 1048576 := HSM.out k s hsk
                  have HSK : Hid _ := hsk
                  clear hts hsk
                  go_wp2
                  go_loopw [32] (fun i wq => ∃ j : Nat, j ≤ s.size ∧ i = .int .i64 j ∧ ∃ m', wq = wr.drewN m') (fun i _ => s.size - (intOf i).toNat)
                  case atStart => exact ⟨0, Nat.zero_le _, rfl, _, rfl⟩
                  case round =>
                    obtain ⟨j, hj, rfl, m', hwq⟩ := hrel
                    subst hwq
                    by_cases hjl : j < s.size
                    · obtain ⟨gv, rfl, hcj⟩ := (all_at HL.out HO.out).2 k s HSK.out hlt j hjl
                      have hi1 : (n0 : Int) + (tot ss k : Int) + (j : Int) < (n0 : Int) + (tot ss n1 : Int) := by omega
                      have hi2 : (j : Int) < (s.size : Int) := by omega
                      go_wp2
                      go_quiet (fail)
                      go_wp2
                      go_roundw
                      case rel => exact ⟨j + 1, by omega, by go_num, _, rfl⟩
                      case measure => simp [intOf]; omega
                    · go_wp2
                      go_roundw
                      case rel => exact ⟨k + 1, by omega, by go_num, by rw [HTS.out]; go_num, _, rfl⟩
                      case measure => simp [intOf]; omega
                · go_wp2
                  go_ret
                  exact ⟨rfl, HF.out.os, HF.out.tape, HF.out.output, HF.out.size, HF.out.block⟩

end Go.Proofs.Qxb6615153a

import Derived.Test.Qxb6615804aPlain
namespace Go.Proofs.Qxb6615804a
open Go.RowKit
set_option linter.unusedVariables false
set_option linter.unusedSimpArgs false

theorem below_more {w0 w1 w2 : World} (h : Below w0.heap.size w0 w1) (h2 : Below w1.heap.size w1 w2) : Below w0.heap.size w0 w2 := h.trans (h2.mono h.size)

theorem cnt_le (V : Nat → Nat) (v i : Nat) : cntB V v i ≤ i := by
  induction i with
  | zero => exact Nat.le_refl _
  | succ i ih => unfold cntB; split <;> omega
theorem cnt_if (V : Nat → Nat) (v i : Nat) : cntB V v (i + 1) = if V i < v then cntB V v i + 1 else cntB V v i := rfl
theorem th_if (V : Nat → Nat) (v i : Nat) : thB V v (i + 1) = if V i = v then true else thB V v i := rfl

set_option maxRecDepth 100000 in
set_option maxHeartbeats 4000000 in
theorem law4_any (w : World) (aH aT aV aB aE aE2 : Option Addr) (nH nT nV nB K K2 k1 k2 k3 k4 k5 k6 : Nat) (H T : Nat → ByteArray) (V : Nat → Nat) (B E E2 : Nat → Int) (mc used : Int) (v : Nat)
    (hH : CRow w aH nH fun i => .string (H i)) (hT : CRow w aT nT fun i => .string (T i)) (hV : CRow w aV nV fun i => .int .u64 (V i : Int)) (hB : CRow w aB nB fun i => .int .i64 (B i)) (hE : CRow w aE K fun k => .int .i64 (E k)) (hE2 : CRow w aE2 K2 fun k => .int .i64 (E2 k))
    (hn1 : nH ≤ maxLen) (hn2 : nT ≤ maxLen) (hm1 : -9223372036854775808 ≤ mc) (hm2 : mc ≤ 9223372036854775807) (hvb : ∀ i, i < nV → V i < 18446744073709551616) (hsz : ∀ i, i < nH → (H i).size ≤ maxLen) :
    Calls Try.prog 4 #[.slice aH nH k1, .slice aT nT k2, .slice aV nV k3, .slice aB nB k4, .slice aE K k5, .slice aE2 K2 k6, .int .i64 mc, .int .u64 used, .int .u64 (v : Int)] w fun e w' => e = .returned (.bool true) ∧ Below w.heap.size w w' := by
  have G13 := bytes13_any w aH aT nH nT k1 k2 H T aV aB aE aE2 nV nB K K2 k3 k4 k5 k6 mc used (v : Int) hH hT hn1 hn2
  have G7 := fun (h1 : nH ≤ 4096) (h2 : nT ≤ 4096) (x : Int) (q : ByteArray) => bytes7_any w aH aT nH nT k1 k2 H T x q hH hT h1 h2
  have G8 := fun (h1 : K ≤ 4096) (h2 : nH ≤ 4096) => table_any w aH aT aV aB aE nH nT nV nB K k1 k2 k3 k4 k5 H V B E mc used hH hV hB hE h1 h2 hm1 hm2 hvb
  have G9 := fun (m : Nat) (h1 : K2 ≤ 4096) (h2 : nH ≤ 4096) => ends_any (w.drewN m) aE2 K2 nH k6 E2 mc (hE2.below (below_drewN (Below.refl _ _)) (Nat.le_refl _)) h1 h2 hm1 hm2
  have HH := hidden hH
  have HT := hidden hT
  have HV := hidden hV
  have HB := hidden hB
  have HE := hidden hE
  have HE2 := hidden hE2
  have HSZ := hidden hsz
  clear hH hT hV hB hE hE2 hsz hvb hn1 hn2
  go_enter Try.func4, Try.ntmps4
  go_wp2_with fail
  refine G13.mono ?_
  rintro e w ⟨⟨r, rfl⟩, rfl⟩
  clear G13
  cases r with
  | false => as_aux_lemma =>
    clear G7 G8 G9
    go_wp2
    go_ret
    exact ⟨rfl, Below.refl _ _⟩
  | true => as_aux_lemma =>
    by_cases qnH : nH ≤ 4096
    case neg => as_aux_lemma =>
      clear G7 G8 G9
      go_wp2
      go_ret
      exact ⟨rfl, Below.refl _ _⟩
    by_cases qnT : nT ≤ 4096
    case neg => as_aux_lemma =>
      clear G7 G8 G9
      go_wp2
      go_ret
      exact ⟨rfl, Below.refl _ _⟩
    by_cases qnV : nV ≤ 4096
    case neg => as_aux_lemma =>
      clear G7 G8 G9
      go_wp2
      go_ret
      exact ⟨rfl, Below.refl _ _⟩
    by_cases qnB : nB ≤ 4096
    case neg => as_aux_lemma =>
      clear G7 G8 G9
      go_wp2
      go_ret
      exact ⟨rfl, Below.refl _ _⟩
    by_cases qK : K ≤ 4096
    case neg => as_aux_lemma =>
      clear G7 G8 G9
      go_wp2
      go_ret
      exact ⟨rfl, Below.refl _ _⟩
    by_cases qK2 : K2 ≤ 4096
    case neg => as_aux_lemma =>
      clear G7 G8 G9
      go_wp2
      go_ret
      exact ⟨rfl, Below.refl _ _⟩
    go_wp2_with fail
    refine (G7 qnH qnT _ _).mono ?_
    rintro e w ⟨⟨z, rfl⟩, rfl⟩
    clear G7
    by_cases hz : 1048576 < z
    case pos => as_aux_lemma =>
      clear G8 G9
      go_wp2
      go_ret
      exact ⟨rfl, Below.refl _ _⟩
    go_wp2_with fail
    refine (G8 qK qnH).mono ?_
    rintro e w1 ⟨⟨r, rfl, htg⟩, m, rfl⟩
    clear G8
    cases r with
    | false => as_aux_lemma =>
      clear G9
      go_wp2
      go_ret
      exact ⟨rfl, below_drewN (Below.refl _ _)⟩
    | true => as_aux_lemma =>
      have HTG := hidden (htg rfl)
      clear htg
      go_wp2_with fail
      refine (G9 m qK2 qnH).mono ?_
      rintro e w1 ⟨⟨r, rfl, hge2⟩, rfl⟩
      clear G9
      cases r with
      | false => as_aux_lemma =>
        go_wp2
        go_ret
        exact ⟨rfl, below_drewN (Below.refl _ _)⟩
      | true => as_aux_lemma =>
        have HGE2 := hidden (hge2 rfl)
        clear hge2
        obtain rfl := HTG.out.t
        obtain rfl := HTG.out.v
        obtain rfl := HTG.out.b
        have hb0 : Below w.heap.size w (w.drewN m) := below_drewN (Below.refl _ _)
        have HH1 := hidden (HH.out.below hb0 (Nat.le_refl _))
        have HT1 := hidden (HT.out.below hb0 (Nat.le_refl _))
        have HV1 := hidden (HV.out.below hb0 (Nat.le_refl _))
        have HB1 := hidden (HB.out.below hb0 (Nat.le_refl _))
        have HE1 := hidden (HE.out.below hb0 (Nat.le_refl _))
        have HF1 := hidden (HE2.out.below hb0 (Nat.le_refl _))
        have HBL := hidden hb0
        clear HH HT HV HB HE HE2 hb0
        go_upto_if 106 with fail
        go_cut [0] from 34 (fun v wx => Cp (w.drewN m) wx nB (fun i => .string (H i)) v)
        case first => as_aux_lemma =>
          cases aH with
          | none => as_aux_lemma =>
            go_wp2_with fail
            go_meet
            exact ⟨none, _, rfl, HH1.out, Below.refl _ _⟩
          | some ad => as_aux_lemma =>
            have hmk := run_make_row' (P := Try.prog) 22 9 (.string ByteArray.empty) 16 Try.underlying22 Try.info9 rfl .i64 .i64 nB (by omega) (by omega)
            go_wp2_with (refine wpList_copy_made rfl (.tmp 110) (.tmp 111) 22 9 rfl Try.underlying22 Try.size9 _ nB k1 (some ad) (fun i => .string (H i)) HH1.out (one_str _) _ rfl rfl ?_; intro wz hcz hbz)
            go_meet
            exact ⟨_, _, rfl, hcz.out, hbz.out⟩
        case rest => as_aux_lemma =>
          obtain ⟨aH', k1', rfl, hrow, hbl⟩ := hcut
          have HBL1 := hidden (below_more HBL.out hbl)
          have HH2 := hidden hrow
          have HT2 := hidden (HT1.out.below hbl (Nat.le_refl _))
          have HV2 := hidden (HV1.out.below hbl (Nat.le_refl _))
          have HB2 := hidden (HB1.out.below hbl (Nat.le_refl _))
          have HE2 := hidden (HE1.out.below hbl (Nat.le_refl _))
          have HF2 := hidden (HF1.out.below hbl (Nat.le_refl _))
          clear HH1 HT1 HV1 HB1 HE1 HF1 hrow hbl HBL
          go_upto_if 115 with fail
          go_cut [1] from 34 (fun v wx => Cp wc wx nB (fun i => .string (T i)) v)
          case first => as_aux_lemma =>
            cases aT with
            | none => as_aux_lemma =>
              go_wp2_with fail
              go_meet
              exact ⟨none, _, rfl, HT2.out, Below.refl _ _⟩
            | some ad => as_aux_lemma =>
              have hmk := run_make_row' (P := Try.prog) 22 9 (.string ByteArray.empty) 16 Try.underlying22 Try.info9 rfl .i64 .i64 nB (by omega) (by omega)
              go_wp2_with (refine wpList_copy_made rfl (.tmp 119) (.tmp 120) 22 9 rfl Try.underlying22 Try.size9 _ nB k2 (some ad) (fun i => .string (T i)) HT2.out (one_str _) _ rfl rfl ?_; intro wz hcz hbz)
              go_meet
              exact ⟨_, _, rfl, hcz.out, hbz.out⟩
          case rest => as_aux_lemma =>
            obtain ⟨aT', k2', rfl, hrow, hbl⟩ := hcut
            have HBL2 := hidden (below_more HBL1.out hbl)
            have HH3 := hidden (HH2.out.below hbl (Nat.le_refl _))
            have HT3 := hidden hrow
            have HV3 := hidden (HV2.out.below hbl (Nat.le_refl _))
            have HB3 := hidden (HB2.out.below hbl (Nat.le_refl _))
            have HE3 := hidden (HE2.out.below hbl (Nat.le_refl _))
            have HF3 := hidden (HF2.out.below hbl (Nat.le_refl _))
            clear HH2 HT2 HV2 HB2 HE2 HF2 hrow hbl HBL1
            go_upto_if 124 with fail
            go_cut [2] from 34 (fun v wx => Cp wc wx nB (fun i => .int .u64 (V i : Int)) v)
            case first => as_aux_lemma =>
              cases aV with
              | none => as_aux_lemma =>
                go_wp2_with fail
                go_meet
                exact ⟨none, _, rfl, HV3.out, Below.refl _ _⟩
              | some ad => as_aux_lemma =>
                have hmk := run_make_row' (P := Try.prog) 23 25 (.int .u64 0) 8 Try.underlying23 Try.info25 rfl .i64 .i64 nB (by omega) (by omega)
                go_wp2_with (refine wpList_copy_made rfl (.tmp 128) (.tmp 129) 23 25 rfl Try.underlying23 Try.size25 _ nB k3 (some ad) (fun i => .int .u64 (V i : Int)) HV3.out (one_int _ _) _ rfl rfl ?_; intro wz hcz hbz)
                go_meet
                exact ⟨_, _, rfl, hcz.out, hbz.out⟩
            case rest => as_aux_lemma =>
              obtain ⟨aV', k3', rfl, hrow, hbl⟩ := hcut
              have HBL3 := hidden (below_more HBL2.out hbl)
              have HH4 := hidden (HH3.out.below hbl (Nat.le_refl _))
              have HT4 := hidden (HT3.out.below hbl (Nat.le_refl _))
              have HV4 := hidden hrow
              have HB4 := hidden (HB3.out.below hbl (Nat.le_refl _))
              have HE4 := hidden (HE3.out.below hbl (Nat.le_refl _))
              have HF4 := hidden (HF3.out.below hbl (Nat.le_refl _))
              clear HH3 HT3 HV3 HB3 HE3 HF3 hrow hbl HBL2
              go_upto_if 133 with fail
              go_cut [3] from 34 (fun v wx => Cp wc wx nB (fun i => .int .i64 (B i)) v)
              case first => as_aux_lemma =>
                cases aB with
                | none => as_aux_lemma =>
                  go_wp2_with fail
                  go_meet
                  exact ⟨none, _, rfl, HB4.out, Below.refl _ _⟩
                | some ad => as_aux_lemma =>
                  have hmk := run_make_row' (P := Try.prog) 24 3 (.int .i64 0) 8 Try.underlying24 Try.info3 rfl .i64 .i64 nB (by omega) (by omega)
                  go_wp2_with (refine wpList_copy_made rfl (.tmp 137) (.tmp 138) 24 3 rfl Try.underlying24 Try.size3 _ nB k4 (some ad) (fun i => .int .i64 (B i)) HB4.out (one_int _ _) _ rfl rfl ?_; intro wz hcz hbz)
                  go_meet
                  exact ⟨_, _, rfl, hcz.out, hbz.out⟩
              case rest => as_aux_lemma =>
                obtain ⟨aB', k4', rfl, hrow, hbl⟩ := hcut
                have HBL4 := hidden (below_more HBL3.out hbl)
                have HH5 := hidden (HH4.out.below hbl (Nat.le_refl _))
                have HT5 := hidden (HT4.out.below hbl (Nat.le_refl _))
                have HV5 := hidden (HV4.out.below hbl (Nat.le_refl _))
                have HB5 := hidden hrow
                have HE5 := hidden (HE4.out.below hbl (Nat.le_refl _))
                have HF5 := hidden (HF4.out.below hbl (Nat.le_refl _))
                clear HH4 HT4 HV4 HB4 HE4 HF4 hrow hbl HBL3
                go_upto_if 142 with fail
                go_cut [4] from 34 (fun v wx => Cp wc wx K (fun i => .int .i64 (E i)) v)
                case first => as_aux_lemma =>
                  cases aE with
                  | none => as_aux_lemma =>
                    go_wp2_with fail
                    go_meet
                    exact ⟨none, _, rfl, HE5.out, Below.refl _ _⟩
                  | some ad => as_aux_lemma =>
                    have hmk := run_make_row' (P := Try.prog) 24 3 (.int .i64 0) 8 Try.underlying24 Try.info3 rfl .i64 .i64 K (by omega) (by omega)
                    go_wp2_with (refine wpList_copy_made rfl (.tmp 146) (.tmp 147) 24 3 rfl Try.underlying24 Try.size3 _ K k5 (some ad) (fun i => .int .i64 (E i)) HE5.out (one_int _ _) _ rfl rfl ?_; intro wz hcz hbz)
                    go_meet
                    exact ⟨_, _, rfl, hcz.out, hbz.out⟩
                case rest => as_aux_lemma =>
                  obtain ⟨aE', k5', rfl, hrow, hbl⟩ := hcut
                  have HBL5 := hidden (below_more HBL4.out hbl)
                  have HH6 := hidden (HH5.out.below hbl (Nat.le_refl _))
                  have HT6 := hidden (HT5.out.below hbl (Nat.le_refl _))
                  have HV6 := hidden (HV5.out.below hbl (Nat.le_refl _))
                  have HB6 := hidden (HB5.out.below hbl (Nat.le_refl _))
                  have HE6 := hidden hrow
                  have HF6 := hidden (HF5.out.below hbl (Nat.le_refl _))
                  clear HH5 HT5 HV5 HB5 HE5 HF5 hrow hbl HBL4
                  go_upto_if 151 with fail
                  go_cut [5] from 34 (fun v wx => Cp wc wx K2 (fun i => .int .i64 (E2 i)) v)
                  case first => as_aux_lemma =>
                    cases aE2 with
                    | none => as_aux_lemma =>
                      go_wp2_with fail
                      go_meet
                      exact ⟨none, _, rfl, HF6.out, Below.refl _ _⟩
                    | some ad => as_aux_lemma =>
                      have hmk := run_make_row' (P := Try.prog) 24 3 (.int .i64 0) 8 Try.underlying24 Try.info3 rfl .i64 .i64 K2 (by omega) (by omega)
                      go_wp2_with (refine wpList_copy_made rfl (.tmp 155) (.tmp 156) 24 3 rfl Try.underlying24 Try.size3 _ K2 k6 (some ad) (fun i => .int .i64 (E2 i)) HF6.out (one_int _ _) _ rfl rfl ?_; intro wz hcz hbz)
                      go_meet
                      exact ⟨_, _, rfl, hcz.out, hbz.out⟩
                  case rest => as_aux_lemma =>
                    obtain ⟨aE2', k6', rfl, hrow, hbl⟩ := hcut
                    have HBL6 := hidden (below_more HBL5.out hbl)
                    have HH7 := hidden (HH6.out.below hbl (Nat.le_refl _))
                    have HT7 := hidden (HT6.out.below hbl (Nat.le_refl _))
                    have HV7 := hidden (HV6.out.below hbl (Nat.le_refl _))
                    have HB7 := hidden (HB6.out.below hbl (Nat.le_refl _))
                    have HE7 := hidden (HE6.out.below hbl (Nat.le_refl _))
                    have HF7 := hidden hrow
                    clear HH6 HT6 HV6 HB6 HE6 HF6 hrow hbl HBL5
                    go_wp2
                    go_loop [25, 26, 27] (fun v25 v26 v27 => ∃ i : Nat, i ≤ nB ∧ v25 = .int .i64 (cntB V v i : Int) ∧ v26 = .bool (thB V v i) ∧ v27 = .int .i64 (i : Int)) (fun _ _ v27 => nB - (intOf v27).toNat)
                    case atStart => exact ⟨0, Nat.zero_le _, rfl, rfl, rfl⟩
                    case round => as_aux_lemma =>
                      obtain ⟨i, hi, rfl, rfl, rfl⟩ := hrel
                      by_cases hlt : i < nB
                      · obtain ⟨b, off, rfl, _, cV⟩ := CRow.pick HV7.out hlt
                        have hiz : (i : Int) < (nB : Int) := by omega
                        have hcl := cnt_le V v i
                        have hc1 := cnt_if V v i
                        have ht1 := th_if V v i
                        have HC1 := hidden hc1
                        have HT1 := hidden ht1
                        clear hc1 ht1
                        have wc1 : IntKind.i64.wrap ((cntB V v i : Int) + 1) = (cntB V v i : Int) + 1 := by rw [IntKind.wrap_i64]; omega
                        by_cases d1 : V i < v
                        · have d2 : ¬ V i = v := by omega
                          have d2b : ((V i : Int) == (v : Int)) = false := by simp; omega
                          have d1z : (V i : Int) < (v : Int) := by omega
                          go_wp2
                          go_round
                          case rel => exact ⟨i + 1, by omega, by rw [HC1.out, if_pos d1]; go_num, by rw [HT1.out, if_neg d2], by go_num⟩
                          case measure => simp [intOf]; omega
                        · have d1z : decide ((V i : Int) < (v : Int)) = false := by simp; omega
                          by_cases d2 : V i = v
                          · have d2b : ((V i : Int) == (v : Int)) = true := by simp [d2]
                            go_wp2
                            go_round
                            case rel => exact ⟨i + 1, by omega, by rw [HC1.out, if_neg d1], by rw [HT1.out, if_pos d2], by go_num⟩
                            case measure => simp [intOf]; omega
                          · have d2b : ((V i : Int) == (v : Int)) = false := by simp; omega
                            go_wp2
                            go_round
                            case rel => exact ⟨i + 1, by omega, by rw [HC1.out, if_neg d1], by rw [HT1.out, if_neg d2], by go_num⟩
                            case measure => simp [intOf]; omega
                      · obtain rfl : i = nB := by omega
                        have hiz : decide ((i : Int) < (i : Int)) = false := by simp
                        have LOW : Hid (Low (fun i => ⟨H i, T i, V i, B i⟩) i v (cntB V v i)) := low_of (n := i) (fun i => ⟨H i, T i, V i, B i⟩) HTG.out.up v
                        have THE : Hid (there (fun i => ⟨H i, T i, V i, B i⟩) i v (cntB V v i) = thB V v i) := there_of (n := i) (fun i => ⟨H i, T i, V i, B i⟩) HTG.out.up v
                        have N1 := newTable_any wc aH' aT' aV' aB' aE' i K k1' k2' k3' k4' k5' (fun i => ⟨H i, T i, V i, B i⟩) (sOf E) mc used HH7.out HT7.out HV7.out HB7.out (HTG.out.ge.row HE7.out) qK qnB HTG.out.ge.zero HTG.out.ge.end HTG.out.ge.step HSZ.out
                        go_wp2_with fail
                        refine N1.mono ?_
                        intro e w2 hmade
                        obtain ⟨tb, mb, aa, cK, cb, ib, cp, rfl, hlst, _, _, hb2⟩ := hmade
                        have HL1 := hidden hlst
                        have HB2 := hidden hb2
                        clear N1 hlst hb2
                        have N2 := newTable_any w2 aH' aT' aV' aB' aE2' i K2 k1' k2' k3' k4' k6' (fun i => ⟨H i, T i, V i, B i⟩) (sOf E2) mc used (HH7.out.below HB2.out (Nat.le_refl _)) (HT7.out.below HB2.out (Nat.le_refl _)) (HV7.out.below HB2.out (Nat.le_refl _)) (HB7.out.below HB2.out (Nat.le_refl _)) (HGE2.out.row (HF7.out.below HB2.out (Nat.le_refl _))) qK2 qnB HGE2.out.zero HGE2.out.end HGE2.out.step HSZ.out
                        go_wp2_with fail
                        refine N2.mono ?_
                        intro e w3 hmade
                        obtain ⟨tb2, mb2, aa2, cK2, cb2, ib2, cp2, rfl, hlst2, _, _, hb3⟩ := hmade
                        have HL2 := hidden hlst2
                        have HB3 := hidden hb3
                        clear N2 hlst2 hb3
                        go_wp2_with fail
                        refine (unitOf_any _ _).mono ?_
                        rintro e w4 ⟨rfl, rfl⟩
                        have b4 : Below w3.heap.size w3 (w3.alloc (.cells #[.int .u64 0, .int .u64 (v : Int)] 31)) := (Below.refl _ _).alloc (Nat.le_refl _) _
                        have F1 := zzfind_any ((HL1.out.below HB3.out (Nat.le_refl _)).below b4 (Nat.le_refl _)) v _ LOW.out
                        rw [THE.out] at F1
                        have HB4 := hidden b4
                        clear b4
                        go_wp2_with fail
                        refine F1.mono ?_
                        rintro e w5 ⟨rfl, hb5⟩
                        have HB5 := hidden hb5
                        clear F1 hb5
                        go_wp2_with fail
                        refine (unitOf_any _ _).mono ?_
                        rintro e w6 ⟨rfl, rfl⟩
                        have b6 : Below w5.heap.size w5 (w5.alloc (.cells #[.int .u64 0, .int .u64 (v : Int)] 31)) := (Below.refl _ _).alloc (Nat.le_refl _) _
                        have F2 := zzfind_any (((HL2.out.below HB4.out (Nat.le_refl _)).below HB5.out (Nat.le_refl _)).below b6 (Nat.le_refl _)) v _ LOW.out
                        have HB6 := hidden b6
                        clear b6
                        rw [THE.out] at F2
                        go_wp2_with fail
                        refine F2.mono ?_
                        rintro e w7 ⟨rfl, hb7⟩
                        have HB7' := hidden hb7
                        clear F2 hb7
                        go_wp2
                        go_ret
                        exact ⟨by simp, below_more (below_more (below_more (below_more (below_more (below_more HBL6.out HB2.out) HB3.out) HB4.out) HB5.out) HB6.out) HB7'.out⟩

end Go.Proofs.Qxb6615804a

import Derived.Test.Qxb6615804aEq
namespace Go.Proofs.Qxb6615804a
open Go.RowKit
set_option linter.unusedVariables false
set_option linter.unusedSimpArgs false

set_option maxRecDepth 100000 in
set_option maxHeartbeats 4000000 in
theorem law5_any (w : World) (aH aT aV aB aE : Option Addr) (nH nT nV nB K k1 k2 k3 k4 k5 : Nat) (H T : Nat → ByteArray) (V : Nat → Nat) (B E : Nat → Int) (mc used : Int)
    (hH : CRow w aH nH fun i => .string (H i)) (hT : CRow w aT nT fun i => .string (T i)) (hV : CRow w aV nV fun i => .int .u64 (V i : Int)) (hB : CRow w aB nB fun i => .int .i64 (B i)) (hE : CRow w aE K fun k => .int .i64 (E k))
    (hn1 : nH ≤ maxLen) (hn2 : nT ≤ maxLen) (hm1 : -9223372036854775808 ≤ mc) (hm2 : mc ≤ 9223372036854775807) (hvb : ∀ i, i < nV → V i < 18446744073709551616) (hsz : ∀ i, i < nH → (H i).size ≤ maxLen) :
    Calls Try.prog 5 #[.slice aH nH k1, .slice aT nT k2, .slice aV nV k3, .slice aB nB k4, .slice aE K k5, .int .i64 mc, .int .u64 used] w fun e w' => e = .returned (.bool true) ∧ Below w.heap.size w w' := by
  have G13 := bytes16_any w aH aT nH nT k1 k2 H T aV aB aE nV nB K k3 k4 k5 mc used hH hT hn1 hn2
  have G7 := fun (h1 : nH ≤ 4096) (h2 : nT ≤ 4096) (x : Int) (q : ByteArray) => bytes7_any w aH aT nH nT k1 k2 H T x q hH hT h1 h2
  have G8 := fun (h1 : K ≤ 4096) (h2 : nH ≤ 4096) => table_any w aH aT aV aB aE nH nT nV nB K k1 k2 k3 k4 k5 H V B E mc used hH hV hB hE h1 h2 hm1 hm2 hvb
  have HH := hidden hH
  have HT := hidden hT
  have HV := hidden hV
  have HB := hidden hB
  have HE := hidden hE
  have HSZ := hidden hsz
  clear hH hT hV hB hE hsz hvb hn1 hn2
  go_enter Try.func5, Try.ntmps5
  go_wp2_with fail
  refine G13.mono ?_
  rintro e w ⟨⟨r, rfl⟩, rfl⟩
  clear G13
  cases r with
  | false => as_aux_lemma =>
    clear G7 G8
    go_wp2
    go_ret
    exact ⟨rfl, Below.refl _ _⟩
  | true => as_aux_lemma =>
    by_cases qnH : nH ≤ 4096
    case neg => as_aux_lemma =>
      clear G7 G8
      go_wp2
      go_ret
      exact ⟨rfl, Below.refl _ _⟩
    by_cases qnT : nT ≤ 4096
    case neg => as_aux_lemma =>
      clear G7 G8
      go_wp2
      go_ret
      exact ⟨rfl, Below.refl _ _⟩
    by_cases qnV : nV ≤ 4096
    case neg => as_aux_lemma =>
      clear G7 G8
      go_wp2
      go_ret
      exact ⟨rfl, Below.refl _ _⟩
    by_cases qnB : nB ≤ 4096
    case neg => as_aux_lemma =>
      clear G7 G8
      go_wp2
      go_ret
      exact ⟨rfl, Below.refl _ _⟩
    by_cases qK : K ≤ 4096
    case neg => as_aux_lemma =>
      clear G7 G8
      go_wp2
      go_ret
      exact ⟨rfl, Below.refl _ _⟩
    go_wp2_with fail
    refine (G7 qnH qnT _ _).mono ?_
    rintro e w ⟨⟨z, rfl⟩, rfl⟩
    clear G7
    by_cases hz : 1048576 < z
    case pos => as_aux_lemma =>
      clear G8
      go_wp2
      go_ret
      exact ⟨rfl, Below.refl _ _⟩
    go_wp2_with fail
    refine (G8 qK qnH).mono ?_
    rintro e w1 ⟨⟨r, rfl, htg⟩, m, rfl⟩
    clear G8
    cases r with
    | false => as_aux_lemma =>
      go_wp2
      go_ret
      exact ⟨rfl, below_drewN (Below.refl _ _)⟩
    | true => as_aux_lemma =>
      have HTG := hidden (htg rfl)
      clear htg
      obtain rfl := HTG.out.t
      obtain rfl := HTG.out.v
      obtain rfl := HTG.out.b
      have hb0 : Below w.heap.size w (w.drewN m) := below_drewN (Below.refl _ _)
      have HH1 := hidden (HH.out.below hb0 (Nat.le_refl _))
      have HT1 := hidden (HT.out.below hb0 (Nat.le_refl _))
      have HV1 := hidden (HV.out.below hb0 (Nat.le_refl _))
      have HB1 := hidden (HB.out.below hb0 (Nat.le_refl _))
      have HE1 := hidden (HE.out.below hb0 (Nat.le_refl _))
      have HBL0 := hidden hb0
      clear HH HT HV HB HE hb0
      go_upto_if 81 with fail
      go_cut [0] from 27 (fun v wx => Cp (w.drewN m) wx nB (fun i => .string (H i)) v)
      case first => as_aux_lemma =>
        cases aH with
        | none => as_aux_lemma =>
          go_wp2_with fail
          go_meet
          exact ⟨none, _, rfl, HH1.out, Below.refl _ _⟩
        | some ad => as_aux_lemma =>
          have hmk := run_make_row' (P := Try.prog) 22 9 (.string ByteArray.empty) 16 Try.underlying22 Try.info9 rfl .i64 .i64 nB (by omega) (by omega)
          go_wp2_with (refine wpList_copy_made rfl (.tmp 85) (.tmp 86) 22 9 rfl Try.underlying22 Try.size9 _ nB k1 (some ad) (fun i => .string (H i)) HH1.out (one_str _) _ rfl rfl ?_; intro wz hcz hbz)
          go_meet
          exact ⟨_, _, rfl, hcz.out, hbz.out⟩
      case rest => as_aux_lemma =>
        obtain ⟨aH', k1', rfl, hrow, hbl⟩ := hcut
        have HBL1 := hidden (below_more HBL0.out hbl)
        have HH2 := hidden hrow
        have HT2 := hidden (HT1.out.below hbl (Nat.le_refl _))
        have HV2 := hidden (HV1.out.below hbl (Nat.le_refl _))
        have HB2 := hidden (HB1.out.below hbl (Nat.le_refl _))
        have HE2 := hidden (HE1.out.below hbl (Nat.le_refl _))
        clear HH1 HT1 HV1 HB1 HE1 hrow hbl HBL0
        go_upto_if 90 with fail
        go_cut [1] from 27 (fun v wx => Cp wc wx nB (fun i => .string (T i)) v)
        case first => as_aux_lemma =>
          cases aT with
          | none => as_aux_lemma =>
            go_wp2_with fail
            go_meet
            exact ⟨none, _, rfl, HT2.out, Below.refl _ _⟩
          | some ad => as_aux_lemma =>
            have hmk := run_make_row' (P := Try.prog) 22 9 (.string ByteArray.empty) 16 Try.underlying22 Try.info9 rfl .i64 .i64 nB (by omega) (by omega)
            go_wp2_with (refine wpList_copy_made rfl (.tmp 94) (.tmp 95) 22 9 rfl Try.underlying22 Try.size9 _ nB k2 (some ad) (fun i => .string (T i)) HT2.out (one_str _) _ rfl rfl ?_; intro wz hcz hbz)
            go_meet
            exact ⟨_, _, rfl, hcz.out, hbz.out⟩
        case rest => as_aux_lemma =>
          obtain ⟨aT', k2', rfl, hrow, hbl⟩ := hcut
          have HBL2 := hidden (below_more HBL1.out hbl)
          have HH3 := hidden (HH2.out.below hbl (Nat.le_refl _))
          have HT3 := hidden hrow
          have HV3 := hidden (HV2.out.below hbl (Nat.le_refl _))
          have HB3 := hidden (HB2.out.below hbl (Nat.le_refl _))
          have HE3 := hidden (HE2.out.below hbl (Nat.le_refl _))
          clear HH2 HT2 HV2 HB2 HE2 hrow hbl HBL1
          go_upto_if 99 with fail
          go_cut [2] from 27 (fun v wx => Cp wc wx nB (fun i => .int .u64 (V i : Int)) v)
          case first => as_aux_lemma =>
            cases aV with
            | none => as_aux_lemma =>
              go_wp2_with fail
              go_meet
              exact ⟨none, _, rfl, HV3.out, Below.refl _ _⟩
            | some ad => as_aux_lemma =>
              have hmk := run_make_row' (P := Try.prog) 23 25 (.int .u64 0) 8 Try.underlying23 Try.info25 rfl .i64 .i64 nB (by omega) (by omega)
              go_wp2_with (refine wpList_copy_made rfl (.tmp 103) (.tmp 104) 23 25 rfl Try.underlying23 Try.size25 _ nB k3 (some ad) (fun i => .int .u64 (V i : Int)) HV3.out (one_int _ _) _ rfl rfl ?_; intro wz hcz hbz)
              go_meet
              exact ⟨_, _, rfl, hcz.out, hbz.out⟩
          case rest => as_aux_lemma =>
            obtain ⟨aV', k3', rfl, hrow, hbl⟩ := hcut
            have HBL3 := hidden (below_more HBL2.out hbl)
            have HH4 := hidden (HH3.out.below hbl (Nat.le_refl _))
            have HT4 := hidden (HT3.out.below hbl (Nat.le_refl _))
            have HV4 := hidden hrow
            have HB4 := hidden (HB3.out.below hbl (Nat.le_refl _))
            have HE4 := hidden (HE3.out.below hbl (Nat.le_refl _))
            clear HH3 HT3 HV3 HB3 HE3 hrow hbl HBL2
            go_upto_if 108 with fail
            go_cut [3] from 27 (fun v wx => Cp wc wx nB (fun i => .int .i64 (B i)) v)
            case first => as_aux_lemma =>
              cases aB with
              | none => as_aux_lemma =>
                go_wp2_with fail
                go_meet
                exact ⟨none, _, rfl, HB4.out, Below.refl _ _⟩
              | some ad => as_aux_lemma =>
                have hmk := run_make_row' (P := Try.prog) 24 3 (.int .i64 0) 8 Try.underlying24 Try.info3 rfl .i64 .i64 nB (by omega) (by omega)
                go_wp2_with (refine wpList_copy_made rfl (.tmp 112) (.tmp 113) 24 3 rfl Try.underlying24 Try.size3 _ nB k4 (some ad) (fun i => .int .i64 (B i)) HB4.out (one_int _ _) _ rfl rfl ?_; intro wz hcz hbz)
                go_meet
                exact ⟨_, _, rfl, hcz.out, hbz.out⟩
            case rest => as_aux_lemma =>
              obtain ⟨aB', k4', rfl, hrow, hbl⟩ := hcut
              have HBL4 := hidden (below_more HBL3.out hbl)
              have HH5 := hidden (HH4.out.below hbl (Nat.le_refl _))
              have HT5 := hidden (HT4.out.below hbl (Nat.le_refl _))
              have HV5 := hidden (HV4.out.below hbl (Nat.le_refl _))
              have HB5 := hidden hrow
              have HE5 := hidden (HE4.out.below hbl (Nat.le_refl _))
              clear HH4 HT4 HV4 HB4 HE4 hrow hbl HBL3
              go_upto_if 117 with fail
              go_cut [4] from 27 (fun v wx => Cp wc wx K (fun i => .int .i64 (E i)) v)
              case first => as_aux_lemma =>
                cases aE with
                | none => as_aux_lemma =>
                  go_wp2_with fail
                  go_meet
                  exact ⟨none, _, rfl, HE5.out, Below.refl _ _⟩
                | some ad => as_aux_lemma =>
                  have hmk := run_make_row' (P := Try.prog) 24 3 (.int .i64 0) 8 Try.underlying24 Try.info3 rfl .i64 .i64 K (by omega) (by omega)
                  go_wp2_with (refine wpList_copy_made rfl (.tmp 121) (.tmp 122) 24 3 rfl Try.underlying24 Try.size3 _ K k5 (some ad) (fun i => .int .i64 (E i)) HE5.out (one_int _ _) _ rfl rfl ?_; intro wz hcz hbz)
                  go_meet
                  exact ⟨_, _, rfl, hcz.out, hbz.out⟩
              case rest => as_aux_lemma =>
                obtain ⟨aE', k5', rfl, hrow, hbl⟩ := hcut
                have HBL5 := hidden (below_more HBL4.out hbl)
                have HH6 := hidden (HH5.out.below hbl (Nat.le_refl _))
                have HT6 := hidden (HT5.out.below hbl (Nat.le_refl _))
                have HV6 := hidden (HV5.out.below hbl (Nat.le_refl _))
                have HB6 := hidden (HB5.out.below hbl (Nat.le_refl _))
                have HE6 := hidden hrow
                clear HH5 HT5 HV5 HB5 HE5 hrow hbl HBL4
                have N1 := newTable_any wc aH' aT' aV' aB' aE' nB K k1' k2' k3' k4' k5' (fun i => ⟨H i, T i, V i, B i⟩) (sOf E) mc used HH6.out HT6.out HV6.out HB6.out (HTG.out.ge.row HE6.out) qK qnB HTG.out.ge.zero HTG.out.ge.end HTG.out.ge.step HSZ.out
                go_wp2_with fail
                refine N1.mono ?_
                intro e wt hmade
                obtain ⟨tb, mb, aa, cK, cb, ib, cp, rfl, hlst, hc0, hm0, hb1⟩ := hmade
                have HT1 := hidden (TabIs.mk hlst hc0 hm0)
                have HBB := hidden (below_more HBL5.out hb1)
                have HH7 := hidden (HH6.out.below hb1 (Nat.le_refl _))
                have HT7 := hidden (HT6.out.below hb1 (Nat.le_refl _))
                have HV7 := hidden (HV6.out.below hb1 (Nat.le_refl _))
                have HB7 := hidden (HB6.out.below hb1 (Nat.le_refl _))
                clear N1 HH6 HT6 HV6 HB6 HE6 HBL5 hlst hc0 hm0 hb1
                go_wp2
                go_loopw [21] (fun v21 wr => ∃ i : Nat, i ≤ nB ∧ v21 = .int .i64 (i : Int) ∧ Hid (Below wt.heap.size wt wr)) (fun v21 _ => nB - (intOf v21).toNat)
                case atStart => exact ⟨0, Nat.zero_le _, rfl, hidden (Below.refl _ _)⟩
                case round => as_aux_lemma =>
                  obtain ⟨i, hi, rfl, HW⟩ := hrel
                  by_cases hlt : i < nB
                  · have hiz : (i : Int) < (nB : Int) := by omega
                    have FE := entryAt_any wr aH' aT' aV' aB' nB k1' k2' k3' k4' i (fun i => ⟨H i, T i, V i, B i⟩) hlt qnB (HH7.out.below HW.out (Nat.le_refl _)) (HT7.out.below HW.out (Nat.le_refl _)) (HV7.out.below HW.out (Nat.le_refl _)) (HB7.out.below HW.out (Nat.le_refl _))
                    go_wp2_with fail
                    refine FE.mono ?_
                    rintro e w2 ⟨rfl, hb2⟩
                    clear FE
                    have b3 : Below w2.heap.size w2 (w2.alloc (.cells (entCells ⟨H i, T i, V i, B i⟩).toArray 35)) := (Below.refl _ _).alloc (Nat.le_refl _) _
                    have W3 := hidden (below_more (below_more HW.out hb2) b3)
                    have R3 := hidden (ent_at (ent_new w2 ⟨H i, T i, V i, B i⟩))
                    have A1 := alloc_some (HT1.out.below W3.out) i hlt HTG.out.up HTG.out.ne (HSZ.out i hlt)
                    obtain ⟨bH, oH, rfl, _, cH⟩ := CRow.pick (HH7.out.below W3.out (Nat.le_refl _)) hlt
                    simp only [entCells] at cH
                    unfold entVal
                    go_wp2_with fail
                    refine A1.mono ?_
                    rintro e w4 ⟨rfl, hb4⟩
                    have b5 : Below w4.heap.size w4 (w4.alloc (.cells (entCells ⟨H i, T i, V i, B i⟩).toArray 35)) := (Below.refl _ _).alloc (Nat.le_refl _) _
                    have R5 := EntAt.below R3.out (below_more hb4 b5) (Nat.le_refl _)
                    have S5 := ent_at (ent_new w4 ⟨H i, T i, V i, B i⟩)
                    have W5 := hidden (below_more (below_more W3.out hb4) b5)
                    clear A1 R3 W3 hb4 b5 cH b3 hb2
                    obtain ⟨bV, oV, rfl, _, cV⟩ := CRow.pick (HV7.out.below W5.out (Nat.le_refl _)) hlt
                    obtain ⟨r0, r1, r2, r3, r4, r5, r6⟩ := R5
                    obtain ⟨s0, s1, s2, s3, s4, s5, s6⟩ := S5
                    simp only [entCells] at cV r0 r1 r2 r3 r4 r5 r6 s0 s1 s2 s3 s4 s5 s6
                    unfold entVal
                    go_wp2_with fail
                    refine (unitOf_any _ _).mono ?_
                    rintro e w6 ⟨rfl, rfl⟩
                    have b6 : Below (w4.alloc (.cells (entCells ⟨H i, T i, V i, B i⟩).toArray 35)).heap.size (w4.alloc (.cells (entCells ⟨H i, T i, V i, B i⟩).toArray 35)) ((w4.alloc (.cells (entCells ⟨H i, T i, V i, B i⟩).toArray 35)).alloc (.cells #[.int .u64 0, .int .u64 (V i : Int)] 31)) := (Below.refl _ _).alloc (Nat.le_refl _) _
                    have W6 := hidden (below_more W5.out b6)
                    have TH : there (fun i => ⟨H i, T i, V i, B i⟩) nB (V i) i = true := by simp [there, hlt]
                    have F1 := zzfind_any (HT1.out.below W6.out).l (V i) i (low_at (X := fun i => ⟨H i, T i, V i, B i⟩) HTG.out.up hlt)
                    rw [TH] at F1
                    clear TH b6 W5 cV r0 r1 r2 r3 r4 r5 r6 s0 s1 s2 s3 s4 s5 s6
                    go_wp2_with fail
                    refine F1.mono ?_
                    rintro e w7 ⟨rfl, hb7⟩
                    have W7 := hidden (below_more W6.out hb7)
                    clear F1 hb7 W6
                    go_wp2
                    go_roundw
                    case rel => exact ⟨i + 1, by omega, by go_num, W7⟩
                    case measure => simp [intOf]; omega
                  · obtain rfl : i = nB := by omega
                    have hiz : decide ((i : Int) < (i : Int)) = false := by simp
                    go_wp2
                    go_ret
                    exact ⟨rfl, below_more HBB.out HW.out⟩

end Go.Proofs.Qxb6615804a

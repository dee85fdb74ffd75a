import Derived.Test.Qxb6615804aEq
namespace Go.Proofs.Qxb6615804a
open Go.RowKit
set_option linter.unusedVariables false
set_option linter.unusedSimpArgs false

set_option maxRecDepth 100000 in
set_option maxHeartbeats 4000000 in
theorem law3_any (w : World) (aH aT aV aB aE aE2 : Option Addr) (nH nT nV nB K K2 k1 k2 k3 k4 k5 k6 : Nat) (H T : Nat → ByteArray) (V : Nat → Nat) (B E E2 : Nat → Int) (mc used : Int) (qs : ByteArray)
    (hH : CRow w aH nH fun i => .string (H i)) (hT : CRow w aT nT fun i => .string (T i)) (hV : CRow w aV nV fun i => .int .u64 (V i : Int)) (hB : CRow w aB nB fun i => .int .i64 (B i)) (hE : CRow w aE K fun k => .int .i64 (E k)) (hE2 : CRow w aE2 K2 fun k => .int .i64 (E2 k))
    (hn1 : nH ≤ maxLen) (hn2 : nT ≤ maxLen) (hm1 : -9223372036854775808 ≤ mc) (hm2 : mc ≤ 9223372036854775807) (hvb : ∀ i, i < nV → V i < 18446744073709551616) (hsz : ∀ i, i < nH → (H i).size ≤ maxLen) (hqs : qs.size ≤ maxLen) :
    Calls Try.prog 3 #[.slice aH nH k1, .slice aT nT k2, .slice aV nV k3, .slice aB nB k4, .slice aE K k5, .slice aE2 K2 k6, .int .i64 mc, .int .u64 used, .string qs] w fun e w' => e = .returned (.bool true) ∧ Below w.heap.size w w' := by
  have G13 := bytes6_any w aH aT nH nT k1 k2 H T aV aB aE aE2 nV nB K K2 k3 k4 k5 k6 mc used qs hH hT hn1 hn2
  have G7 := fun (h1 : nH ≤ 4096) (h2 : nT ≤ 4096) (x : Int) (q : ByteArray) => bytes7_any w aH aT nH nT k1 k2 H T x q hH hT h1 h2
  have G8 := fun (h1 : K ≤ 4096) (h2 : nH ≤ 4096) => table_any w aH aT aV aB aE nH nT nV nB K k1 k2 k3 k4 k5 H V B E mc used hH hV hB hE h1 h2 hm1 hm2 hvb
  have G9 := fun (m : Nat) (h1 : K2 ≤ 4096) (h2 : nH ≤ 4096) => ends_any (w.drewN m) aE2 K2 nH k6 E2 mc (hE2.below (below_drewN (Below.refl _ _)) (Nat.le_refl _)) h1 h2 hm1 hm2
  have HH := hidden hH
  have HT := hidden hT
  have HV := hidden hV
  have HB := hidden hB
  have HE := hidden hE
  have HE2 := hidden hE2
  have HSZ := hidden hsz
  have HQS := hidden hqs
  clear hH hT hV hB hE hE2 hsz hvb hn1 hn2 hqs
  go_enter Try.func3, Try.ntmps3
  go_wp2_with fail
  refine G13.mono ?_
  rintro e w ⟨⟨r, rfl⟩, rfl⟩
  clear G13
  cases r with
  | false => as_aux_lemma =>
    clear G7 G8 G9
    go_wp2
    go_ret
    exact ⟨rfl, Below.refl _ _⟩
  | true => as_aux_lemma =>
    by_cases qnH : nH ≤ 4096
    case neg => as_aux_lemma =>
      clear G7 G8 G9
      go_wp2
      go_ret
      exact ⟨rfl, Below.refl _ _⟩
    by_cases qnT : nT ≤ 4096
    case neg => as_aux_lemma =>
      clear G7 G8 G9
      go_wp2
      go_ret
      exact ⟨rfl, Below.refl _ _⟩
    by_cases qnV : nV ≤ 4096
    case neg => as_aux_lemma =>
      clear G7 G8 G9
      go_wp2
      go_ret
      exact ⟨rfl, Below.refl _ _⟩
    by_cases qnB : nB ≤ 4096
    case neg => as_aux_lemma =>
      clear G7 G8 G9
      go_wp2
      go_ret
      exact ⟨rfl, Below.refl _ _⟩
    by_cases qK : K ≤ 4096
    case neg => as_aux_lemma =>
      clear G7 G8 G9
      go_wp2
      go_ret
      exact ⟨rfl, Below.refl _ _⟩
    by_cases qK2 : K2 ≤ 4096
    case neg => as_aux_lemma =>
      clear G7 G8 G9
      go_wp2
      go_ret
      exact ⟨rfl, Below.refl _ _⟩
    by_cases qqs : qs.size ≤ 65536
    case neg => as_aux_lemma =>
      clear G7 G8 G9
      go_wp2
      go_ret
      exact ⟨rfl, Below.refl _ _⟩
    go_wp2_with fail
    refine (G7 qnH qnT _ _).mono ?_
    rintro e w ⟨⟨z, rfl⟩, rfl⟩
    clear G7
    by_cases hz : 1048576 < z
    case pos => as_aux_lemma =>
      clear G8 G9
      go_wp2
      go_ret
      exact ⟨rfl, Below.refl _ _⟩
    go_wp2_with fail
    refine (G8 qK qnH).mono ?_
    rintro e w1 ⟨⟨r, rfl, htg⟩, m, rfl⟩
    clear G8
    cases r with
    | false => as_aux_lemma =>
      clear G9
      go_wp2
      go_ret
      exact ⟨rfl, below_drewN (Below.refl _ _)⟩
    | true => as_aux_lemma =>
      have HTG := hidden (htg rfl)
      clear htg
      go_wp2_with fail
      refine (G9 m qK2 qnH).mono ?_
      rintro e w1 ⟨⟨r, rfl, hge2⟩, rfl⟩
      clear G9
      cases r with
      | false => as_aux_lemma =>
        go_wp2
        go_ret
        exact ⟨rfl, below_drewN (Below.refl _ _)⟩
      | true => as_aux_lemma =>
        have HGE2 := hidden (hge2 rfl)
        clear hge2
        obtain rfl := HTG.out.t
        obtain rfl := HTG.out.v
        obtain rfl := HTG.out.b
        have hb0 : Below w.heap.size w (w.drewN m) := below_drewN (Below.refl _ _)
        have HH1 := hidden (HH.out.below hb0 (Nat.le_refl _))
        have HT1 := hidden (HT.out.below hb0 (Nat.le_refl _))
        have HV1 := hidden (HV.out.below hb0 (Nat.le_refl _))
        have HB1 := hidden (HB.out.below hb0 (Nat.le_refl _))
        have HE1 := hidden (HE.out.below hb0 (Nat.le_refl _))
        have HF1 := hidden (HE2.out.below hb0 (Nat.le_refl _))
        have HBL := hidden hb0
        clear HH HT HV HB HE HE2 hb0
        go_upto_if 111 with fail
        go_cut [0] from 33 (fun v wx => Cp (w.drewN m) wx nB (fun i => .string (H i)) v)
        case first => as_aux_lemma =>
          cases aH with
          | none => as_aux_lemma =>
            go_wp2_with fail
            go_meet
            exact ⟨none, _, rfl, HH1.out, Below.refl _ _⟩
          | some ad => as_aux_lemma =>
            have hmk := run_make_row' (P := Try.prog) 22 9 (.string ByteArray.empty) 16 Try.underlying22 Try.info9 rfl .i64 .i64 nB (by omega) (by omega)
            go_wp2_with (refine wpList_copy_made rfl (.tmp 115) (.tmp 116) 22 9 rfl Try.underlying22 Try.size9 _ nB k1 (some ad) (fun i => .string (H i)) HH1.out (one_str _) _ rfl rfl ?_; intro wz hcz hbz)
            go_meet
            exact ⟨_, _, rfl, hcz.out, hbz.out⟩
        case rest => as_aux_lemma =>
          obtain ⟨aH', k1', rfl, hrow, hbl⟩ := hcut
          have HBL1 := hidden (below_more HBL.out hbl)
          have HH2 := hidden hrow
          have HT2 := hidden (HT1.out.below hbl (Nat.le_refl _))
          have HV2 := hidden (HV1.out.below hbl (Nat.le_refl _))
          have HB2 := hidden (HB1.out.below hbl (Nat.le_refl _))
          have HE2 := hidden (HE1.out.below hbl (Nat.le_refl _))
          have HF2 := hidden (HF1.out.below hbl (Nat.le_refl _))
          clear HH1 HT1 HV1 HB1 HE1 HF1 hrow hbl HBL
          go_upto_if 120 with fail
          go_cut [1] from 33 (fun v wx => Cp wc wx nB (fun i => .string (T i)) v)
          case first => as_aux_lemma =>
            cases aT with
            | none => as_aux_lemma =>
              go_wp2_with fail
              go_meet
              exact ⟨none, _, rfl, HT2.out, Below.refl _ _⟩
            | some ad => as_aux_lemma =>
              have hmk := run_make_row' (P := Try.prog) 22 9 (.string ByteArray.empty) 16 Try.underlying22 Try.info9 rfl .i64 .i64 nB (by omega) (by omega)
              go_wp2_with (refine wpList_copy_made rfl (.tmp 124) (.tmp 125) 22 9 rfl Try.underlying22 Try.size9 _ nB k2 (some ad) (fun i => .string (T i)) HT2.out (one_str _) _ rfl rfl ?_; intro wz hcz hbz)
              go_meet
              exact ⟨_, _, rfl, hcz.out, hbz.out⟩
          case rest => as_aux_lemma =>
            obtain ⟨aT', k2', rfl, hrow, hbl⟩ := hcut
            have HBL2 := hidden (below_more HBL1.out hbl)
            have HH3 := hidden (HH2.out.below hbl (Nat.le_refl _))
            have HT3 := hidden hrow
            have HV3 := hidden (HV2.out.below hbl (Nat.le_refl _))
            have HB3 := hidden (HB2.out.below hbl (Nat.le_refl _))
            have HE3 := hidden (HE2.out.below hbl (Nat.le_refl _))
            have HF3 := hidden (HF2.out.below hbl (Nat.le_refl _))
            clear HH2 HT2 HV2 HB2 HE2 HF2 hrow hbl HBL1
            go_upto_if 129 with fail
            go_cut [2] from 33 (fun v wx => Cp wc wx nB (fun i => .int .u64 (V i : Int)) v)
            case first => as_aux_lemma =>
              cases aV with
              | none => as_aux_lemma =>
                go_wp2_with fail
                go_meet
                exact ⟨none, _, rfl, HV3.out, Below.refl _ _⟩
              | some ad => as_aux_lemma =>
                have hmk := run_make_row' (P := Try.prog) 23 25 (.int .u64 0) 8 Try.underlying23 Try.info25 rfl .i64 .i64 nB (by omega) (by omega)
                go_wp2_with (refine wpList_copy_made rfl (.tmp 133) (.tmp 134) 23 25 rfl Try.underlying23 Try.size25 _ nB k3 (some ad) (fun i => .int .u64 (V i : Int)) HV3.out (one_int _ _) _ rfl rfl ?_; intro wz hcz hbz)
                go_meet
                exact ⟨_, _, rfl, hcz.out, hbz.out⟩
            case rest => as_aux_lemma =>
              obtain ⟨aV', k3', rfl, hrow, hbl⟩ := hcut
              have HBL3 := hidden (below_more HBL2.out hbl)
              have HH4 := hidden (HH3.out.below hbl (Nat.le_refl _))
              have HT4 := hidden (HT3.out.below hbl (Nat.le_refl _))
              have HV4 := hidden hrow
              have HB4 := hidden (HB3.out.below hbl (Nat.le_refl _))
              have HE4 := hidden (HE3.out.below hbl (Nat.le_refl _))
              have HF4 := hidden (HF3.out.below hbl (Nat.le_refl _))
              clear HH3 HT3 HV3 HB3 HE3 HF3 hrow hbl HBL2
              go_upto_if 138 with fail
              go_cut [3] from 33 (fun v wx => Cp wc wx nB (fun i => .int .i64 (B i)) v)
              case first => as_aux_lemma =>
                cases aB with
                | none => as_aux_lemma =>
                  go_wp2_with fail
                  go_meet
                  exact ⟨none, _, rfl, HB4.out, Below.refl _ _⟩
                | some ad => as_aux_lemma =>
                  have hmk := run_make_row' (P := Try.prog) 24 3 (.int .i64 0) 8 Try.underlying24 Try.info3 rfl .i64 .i64 nB (by omega) (by omega)
                  go_wp2_with (refine wpList_copy_made rfl (.tmp 142) (.tmp 143) 24 3 rfl Try.underlying24 Try.size3 _ nB k4 (some ad) (fun i => .int .i64 (B i)) HB4.out (one_int _ _) _ rfl rfl ?_; intro wz hcz hbz)
                  go_meet
                  exact ⟨_, _, rfl, hcz.out, hbz.out⟩
              case rest => as_aux_lemma =>
                obtain ⟨aB', k4', rfl, hrow, hbl⟩ := hcut
                have HBL4 := hidden (below_more HBL3.out hbl)
                have HH5 := hidden (HH4.out.below hbl (Nat.le_refl _))
                have HT5 := hidden (HT4.out.below hbl (Nat.le_refl _))
                have HV5 := hidden (HV4.out.below hbl (Nat.le_refl _))
                have HB5 := hidden hrow
                have HE5 := hidden (HE4.out.below hbl (Nat.le_refl _))
                have HF5 := hidden (HF4.out.below hbl (Nat.le_refl _))
                clear HH4 HT4 HV4 HB4 HE4 HF4 hrow hbl HBL3
                go_upto_if 147 with fail
                go_cut [4] from 33 (fun v wx => Cp wc wx K (fun i => .int .i64 (E i)) v)
                case first => as_aux_lemma =>
                  cases aE with
                  | none => as_aux_lemma =>
                    go_wp2_with fail
                    go_meet
                    exact ⟨none, _, rfl, HE5.out, Below.refl _ _⟩
                  | some ad => as_aux_lemma =>
                    have hmk := run_make_row' (P := Try.prog) 24 3 (.int .i64 0) 8 Try.underlying24 Try.info3 rfl .i64 .i64 K (by omega) (by omega)
                    go_wp2_with (refine wpList_copy_made rfl (.tmp 151) (.tmp 152) 24 3 rfl Try.underlying24 Try.size3 _ K k5 (some ad) (fun i => .int .i64 (E i)) HE5.out (one_int _ _) _ rfl rfl ?_; intro wz hcz hbz)
                    go_meet
                    exact ⟨_, _, rfl, hcz.out, hbz.out⟩
                case rest => as_aux_lemma =>
                  obtain ⟨aE', k5', rfl, hrow, hbl⟩ := hcut
                  have HBL5 := hidden (below_more HBL4.out hbl)
                  have HH6 := hidden (HH5.out.below hbl (Nat.le_refl _))
                  have HT6 := hidden (HT5.out.below hbl (Nat.le_refl _))
                  have HV6 := hidden (HV5.out.below hbl (Nat.le_refl _))
                  have HB6 := hidden (HB5.out.below hbl (Nat.le_refl _))
                  have HE6 := hidden hrow
                  have HF6 := hidden (HF5.out.below hbl (Nat.le_refl _))
                  clear HH5 HT5 HV5 HB5 HE5 HF5 hrow hbl HBL4
                  go_upto_if 156 with fail
                  go_cut [5] from 33 (fun v wx => Cp wc wx K2 (fun i => .int .i64 (E2 i)) v)
                  case first => as_aux_lemma =>
                    cases aE2 with
                    | none => as_aux_lemma =>
                      go_wp2_with fail
                      go_meet
                      exact ⟨none, _, rfl, HF6.out, Below.refl _ _⟩
                    | some ad => as_aux_lemma =>
                      have hmk := run_make_row' (P := Try.prog) 24 3 (.int .i64 0) 8 Try.underlying24 Try.info3 rfl .i64 .i64 K2 (by omega) (by omega)
                      go_wp2_with (refine wpList_copy_made rfl (.tmp 160) (.tmp 161) 24 3 rfl Try.underlying24 Try.size3 _ K2 k6 (some ad) (fun i => .int .i64 (E2 i)) HF6.out (one_int _ _) _ rfl rfl ?_; intro wz hcz hbz)
                      go_meet
                      exact ⟨_, _, rfl, hcz.out, hbz.out⟩
                  case rest => as_aux_lemma =>
                    obtain ⟨aE2', k6', rfl, hrow, hbl⟩ := hcut
                    have HBL6 := hidden (below_more HBL5.out hbl)
                    have HH7 := hidden (HH6.out.below hbl (Nat.le_refl _))
                    have HT7 := hidden (HT6.out.below hbl (Nat.le_refl _))
                    have HV7 := hidden (HV6.out.below hbl (Nat.le_refl _))
                    have HB7 := hidden (HB6.out.below hbl (Nat.le_refl _))
                    have HE7 := hidden (HE6.out.below hbl (Nat.le_refl _))
                    have HF7 := hidden hrow
                    clear HH6 HT6 HV6 HB6 HE6 HF6 hrow hbl HBL5
                    have FE := entry_any wc aH' aT' aV' aB' nB k1' k2' k3' k4' (fun i => ⟨H i, T i, V i, B i⟩) qs qnB HH7.out HT7.out HV7.out HB7.out
                    go_wp2_with fail
                    refine FE.mono ?_
                    rintro e w2 ⟨hent, hb2⟩
                    clear FE
                    obtain ⟨x, ok, rfl, hall⟩ := ent_key hent HTG.out.up HTG.out.ne HQS.out
                    have HALL := hidden hall
                    have b3 : Below w2.heap.size w2 (w2.alloc (.cells (entCells x).toArray 35)) := (Below.refl _ _).alloc (Nat.le_refl _) _
                    have bb := below_more hb2 b3
                    have R3 := hidden (ent_at (ent_new w2 x))
                    have N1 := fun (wy : World) (hy : Below wc.heap.size wc wy) => newTable_any wy aH' aT' aV' aB' aE' nB K k1' k2' k3' k4' k5' (fun i => ⟨H i, T i, V i, B i⟩) (sOf E) mc used (HH7.out.below hy (Nat.le_refl _)) (HT7.out.below hy (Nat.le_refl _)) (HV7.out.below hy (Nat.le_refl _)) (HB7.out.below hy (Nat.le_refl _)) (HTG.out.ge.row (HE7.out.below hy (Nat.le_refl _))) qK qnB HTG.out.ge.zero HTG.out.ge.end HTG.out.ge.step HSZ.out
                    have N2 := fun (wy : World) (hy : Below wc.heap.size wc wy) => newTable_any wy aH' aT' aV' aB' aE2' nB K2 k1' k2' k3' k4' k6' (fun i => ⟨H i, T i, V i, B i⟩) (sOf E2) mc used (HH7.out.below hy (Nat.le_refl _)) (HT7.out.below hy (Nat.le_refl _)) (HV7.out.below hy (Nat.le_refl _)) (HB7.out.below hy (Nat.le_refl _)) (HGE2.out.row (HF7.out.below hy (Nat.le_refl _))) qK2 qnB HGE2.out.zero HGE2.out.end HGE2.out.step HSZ.out
                    have N1' := N1 _ bb
                    have HN2 := hidden N2
                    have HBB := hidden bb
                    clear hent hall b3 bb hb2 N1 N2 HH7 HT7 HV7 HB7 HE7 HF7 HTG HGE2 HSZ HQS
                    unfold entVal
                    go_wp2_with fail
                    refine N1'.mono ?_
                    intro e w4 hmade
                    obtain ⟨tb, mb, aa, cK, cb, ib, cp, rfl, hlst, hc0, hm0, hb4⟩ := hmade
                    have HT1 := hidden (TabIs.mk hlst hc0 hm0)
                    have HBC := hidden (below_more HBB.out hb4)
                    have R4 := hidden (EntAt.below R3.out hb4 (Nat.le_refl _))
                    have N2' := HN2.out _ HBC.out
                    clear N1' hlst hc0 hm0 hb4 R3 HBB HN2
                    go_wp2_with fail
                    refine N2'.mono ?_
                    intro e w5 hmade
                    obtain ⟨tb2, mb2, aa2, cK2, cb2, ib2, cp2, rfl, hlst, hc0, hm0, hb5⟩ := hmade
                    have HT2 := hidden (TabIs.mk hlst hc0 hm0)
                    have HBD := hidden (below_more HBC.out hb5)
                    have R5 := hidden (EntAt.below R4.out hb5 (Nat.le_refl _))
                    have A1 := HALL.out _ _ _ _ _ _ _ _ _ _ (HT1.out.below hb5)
                    clear N2' hlst hc0 hm0 hb5 R4 HBC HT1
                    go_wp2_with fail
                    refine A1.mono ?_
                    rintro e w6 ⟨rfl, hb6⟩
                    have b7 : Below w6.heap.size w6 (w6.alloc (.cells (entCells x).toArray 35)) := (Below.refl _ _).alloc (Nat.le_refl _) _
                    have R7 := hidden (EntAt.below (EntAt.below R5.out hb6 (Nat.le_refl _)) b7 (Nat.le_refl _))
                    have S7 := hidden (ent_at (ent_new w6 x))
                    have HBE := hidden (below_more (below_more HBD.out hb6) b7)
                    have A2 := HALL.out _ _ _ _ _ _ _ _ _ _ ((HT2.out.below hb6).below b7)
                    clear A1 hb6 b7 R5 HT2 HBD HALL
                    unfold entVal
                    go_wp2_with fail
                    refine A2.mono ?_
                    rintro e w8 ⟨rfl, hb8⟩
                    have b9 : Below w8.heap.size w8 (w8.alloc (.cells (entCells x).toArray 35)) := (Below.refl _ _).alloc (Nat.le_refl _) _
                    have R8 := EntAt.below R7.out (below_more hb8 b9) (Nat.le_refl _)
                    have S8 := EntAt.below S7.out (below_more hb8 b9) (Nat.le_refl _)
                    have T8 := ent_at (ent_new w8 x)
                    have HBF := hidden (below_more (below_more HBE.out hb8) b9)
                    clear A2 R7 S7 HBE hb8 b9
                    obtain ⟨r0, r1, r2, r3, r4, r5, r6⟩ := R8
                    obtain ⟨s0, s1, s2, s3, s4, s5, s6⟩ := S8
                    obtain ⟨t0, t1, t2, t3, t4, t5, t6⟩ := T8
                    simp only [entCells] at r0 r1 r2 r3 r4 r5 r6 s0 s1 s2 s3 s4 s5 s6 t0 t1 t2 t3 t4 t5 t6
                    unfold entVal
                    go_wp2
                    go_ret
                    exact ⟨rfl, below_more HBL6.out HBF.out⟩

end Go.Proofs.Qxb6615804a

import Derived.Test.Qxb6615154aIns
namespace Go.Proofs.Qxb6615154a
open Go.RowKit
set_option linter.unusedVariables false
set_option linter.unusedSimpArgs false

theorem hidden {p : Prop} (h : p) : Hid p := h

theorem new13 (w : World) (s t : ByteArray) : ∀ j u, (evCells s t)[j]? = some u → (w.alloc (.cells #[.string s, .string t, .int .u64 0, .int .i64 0, .pointer none, .pointer none, .int .i32 0, .pointer none, .int .i32 0, .pointer none, .int .i32 0, .pointer none, .int .i32 0] 47)).cell? ((⟨w.heap.size, 0, none⟩ : Addr).add j) = some u := by
  intro j u hu
  have h := heap_alloc_new w (.cells (evCells s t).toArray 47)
  rw [Addr.add_lit, Nat.zero_add]
  show (w.alloc (.cells (evCells s t).toArray 47)).cell? ⟨w.heap.size, j, none⟩ = some u
  simp only [World.cell?]
  rw [h]
  simpa using hu

set_option maxRecDepth 100000 in
set_option maxHeartbeats 2000000 in
theorem law4 (a : Option Addr) (n c : Nat) (ps : List (ByteArray × ByteArray)) (cut : Int) (pa ki : ByteArray) (w : World) (hs : ERow w a n ps) (hm : n ≤ maxLen) (hpa : pa.size ≤ maxLen) (hki : ki.size ≤ maxLen) :
    Calls Try.prog 4 #[.slice a n c, .int .i64 cut, .string pa, .string ki] w fun e w' => e = .returned (.bool true) ∧ Below w.heap.size w w' := by
  have HS : Hid (ERow w a n ps) := hs
  have hl := hs.1
  have HL := hidden hl
  have hm' := hm
  have hpa' := hpa
  have hki' := hki
  unfold maxLen at hm' hpa' hki'
  clear hs hl
  go_enter Try.func4, Try.ntmps4
  go_wp2_with fail
  refine (bytes9_any a n c ps cut pa ki w HS.out hm hpa hki).mono ?_
  rintro e w ⟨⟨rr, rfl⟩, rfl⟩
  cases rr with
  | false =>
    go_wp2
    go_ret
    exact ⟨rfl, Below.refl _ _⟩
  | true =>
  go_wp2_with fail
  refine (big6_any a n c ps _ HS.out hm).mono ?_
  rintro e w1 ⟨rfl | ⟨rfl, hn⟩, q1, rfl⟩
  · go_wp2
    go_ret
    exact ⟨rfl, below_dn (Below.refl _ _) _⟩
  clear hm hm' hpa hki
  by_cases b1 : pa.size ≤ 262144
  case neg =>
    go_wp2
    go_ret
    exact ⟨rfl, below_dn (Below.refl _ _) _⟩
  by_cases b2 : ki.size ≤ 262144
  case neg =>
    go_wp2
    go_ret
    exact ⟨rfl, below_dn (Below.refl _ _) _⟩
  by_cases b3 : cut < 0
  · have hd : decide (cut < 0) = true := by simpa using b3
    go_wp2
    go_ret
    exact ⟨rfl, below_dn (Below.refl _ _) _⟩
  have hd : decide (cut < 0) = false := by simpa using b3
  by_cases b4 : (n : Int) < cut
  · go_wp2
    go_ret
    exact ⟨rfl, below_dn (Below.refl _ _) _⟩
  obtain ⟨k, rfl⟩ : ∃ k : Nat, cut = k := Int.eq_ofNat_of_zero_le (by omega)
  have hkn : k ≤ n := by omega
  have HB1 : Hid (Below w.heap.size w (w.drewN q1)) := below_dn (Below.refl _ _) _
  have HS1 : Hid (ERow (w.drewN q1) a n ps) := ERow.below HS.out HB1.out (Nat.le_refl _)
  go_wp2_with fail
  refine (events7 a n c ps _ HS1.out hn).mono ?_
  rintro e w2 ⟨rfl, hrow2, bel2⟩
  obtain ⟨gF, hgF⟩ : ∃ g, g = (w.drewN q1).heap.size := ⟨_, rfl⟩
  rw [← hgF] at hrow2 ⊢
  have HF2 : Hid (FRow w2 (some ⟨gF, 0, none⟩) n ps) := hrow2
  have HB2 : Hid (Below w.heap.size w w2) := HB1.out.trans (bel2.mono (Nat.le_refl _))
  clear hrow2 bel2 hgF
  have hmk := make25cap n hn
  obtain ⟨i0, hi, hz0, hz1, hz2⟩ := info_parts Try.info47
  have own0 : (w2.alloc (.cells (evZero (n + 1)) 47)).ownsRow w2.heap.size 47 13 (.slice (some ⟨w2.heap.size, 0, none⟩) 0 (n + 1)) 0 [] :=
    World.ownsRow_made w2 _ (n + 1) (Nat.le_refl _) (by unfold maxLen; omega) (size_madeCells _ _)
  have bel3 : Below w2.heap.size w2 (w2.alloc (.cells (evZero (n + 1)) 47)) := (Below.refl _ _).alloc (Nat.le_refl _) _
  have HF3 : Hid _ := FRow.below HF2.out bel3 (Nat.le_refl _)
  have news1 := FRow.news (FRow.take HF3.out hkn)
  have len1 : (evList (ps.take k)).length = k * 13 := by rw [evList_length, List.length_take, HL.out, Nat.min_eq_left hkn]
  have len3 : (evList (ps.drop k)).length = (n - k) * 13 := by rw [evList_length, List.length_drop, HL.out]
  have HBL3 := hidden bel3
  have OWN0 := hidden own0
  have NEWS1 := hidden news1
  have LEN1 := hidden len1
  have LEN3 := hidden len3
  clear bel3 own0 news1 len1 len3
  go_wp2_with (first | (at_builtin; refine wpList_append_fits _ rfl (.tmp 43) (.tmp 46) 25 rfl w2.heap.size 47 i0 13 Try.underlying25 hi hz1 w2.heap.size 0 (n + 1) [] rfl OWN0.out ⟨gF, 0, none⟩ k n (evList (ps.take k)) rfl LEN1.out NEWS1.out (evList_one _) (by omega) ?_))
  intro w4 own4 grow4
  have bel4 : Below w2.heap.size w2 w4 := HBL3.out.grown grow4 (by simp) (fun b hb => by simp at hb; omega)
  have HBL4 := hidden bel4
  have OWN4 := hidden own4
  clear own4 grow4 bel4 hmk OWN0 NEWS1
  go_wp2_with (first | (at_builtin; refine wpList_append_fits _ rfl (.tmp 48) (.tmp 52) 25 rfl w2.heap.size 47 i0 13 Try.underlying25 hi hz1 w2.heap.size k (n + 1) (evList (ps.take k)) rfl (World.ownsRow.alloc OWN4.out _) ⟨w4.heap.size, 0, none⟩ 1 1 (evCells pa ki) rfl rfl (new13 w4 pa ki) (evCells_one _ _) (by omega) ?_))
  intro w5 own5 grow5
  have bel5 : Below w2.heap.size w2 w5 := (HBL4.out.alloc HBL4.out.size _).grown grow5 (by have := HBL4.out.size; simp; omega) (fun b hb => by simp at hb; omega)
  have HF5 : Hid _ := FRow.below HF2.out bel5 (Nat.le_refl _)
  have HBL5 := hidden bel5
  have OWN5 := hidden own5
  clear own5 grow5 bel5 OWN4
  by_cases hke : n = k
  · subst hke
    have len0 : (evList (ps.drop n)).length = 0 * 13 := by have := LEN3.out; omega
    have news0 : ∀ j u, (evList (ps.drop n))[j]? = some u → w5.cell? ((⟨gF, 0, none⟩ : Addr).add j) = some u := fun j u hu => by
      have := (List.getElem?_eq_some_iff.1 hu).1; omega
    have NEWS3 := hidden news0
    have LEN0 := hidden len0
    clear len0 news0
    go_wp2_with (first | (at_builtin; refine wpList_append_fits _ rfl (.tmp 54) (.tmp 57) 25 rfl w2.heap.size 47 i0 13 Try.underlying25 hi hz1 w2.heap.size (n + 1) (n + 1) (evList (ps.take n) ++ evCells pa ki) rfl OWN5.out ⟨gF, 0, none⟩ 0 0 (evList (ps.drop n)) rfl LEN0.out NEWS3.out (evList_one _) (by omega) ?_))
    intro w6 own6 grow6
    have bel6 : Below w2.heap.size w2 w6 := HBL5.out.grown grow6 HBL5.out.size (fun b hb => by simp at hb; omega)
    have own6' : w6.ownsRow w2.heap.size 47 13 (.slice (some ⟨w2.heap.size, 0, none⟩) (n + 1) (n + 1)) (n + 1) (evList (ins ps n pa ki)) := by
      rw [← ins_cells, List.append_assoc]; exact own6
    have HF6 := hidden (FRow.below HF2.out bel6 (Nat.le_refl _))
    have HG6 := hidden (frow_owns own6')
    have HB6 : Hid (Below w.heap.size w w6) := HB2.out.trans (bel6.mono HB2.out.size)
    obtain ⟨gG, hgG⟩ : ∃ g, g = w2.heap.size := ⟨_, rfl⟩
    rw [← hgG] at HG6 ⊢
    clear bel6 own6' own6 grow6 OWN5 hgG HBL5 HBL4 HBL3
    go_wp2_with fail
    refine (kinds8 (some ⟨gF, 0, none⟩) n n false false ps w6 HF6.out (by omega)).mono ?_
    rintro e w7 ⟨g1, hg1, rfl, hrow7, bel7⟩
    have HG7 := hidden (FRow.below HG6.out bel7 (Nat.le_refl _))
    have HB7 : Hid (Below w.heap.size w w7) := HB6.out.trans (bel7.mono HB6.out.size)
    have HR7 := hidden hrow7
    clear hrow7 bel7 hg1
    go_wp2_with fail
    refine (kinds8 (some ⟨gG, 0, none⟩) (n + 1) (n + 1) false false (ins ps n pa ki) w7 HG7.out (by omega)).mono ?_
    rintro e w8 ⟨g2, hg2, rfl, hrow8, bel8⟩
    have HB8 : Hid (Below w.heap.size w w8) := HB7.out.trans (bel8.mono HB7.out.size)
    have HRA := hidden (row_below HR7.out bel8 (Nat.le_refl _))
    have HRB := hidden hrow8
    clear hrow8 bel8 hg2
    have hkl : n ≤ ps.length := by rw [HL.out]; exact (Nat.le_refl n)
    have ck := World.rowIs.cell HRB.out (show n < n + 1 by omega)
    rw [ins_at hkl] at ck
    have ik : (n : Int) < (n : Int) + 1 := by omega
    go_wp2
    clear ck ik
    go_loopw [13] (fun i wq => ∃ j : Nat, j ≤ n ∧ i = .int .i64 (j : Int) ∧ ∃ m', wq = w8.drewN m') (fun i _ => n - (intOf i).toNat)
    case atStart => exact ⟨0, Nat.zero_le _, rfl, 0, rfl⟩
    case round =>
      obtain ⟨j, hj, rfl, m', hwq⟩ := hrel
      subst hwq
      by_cases hjl : j < n
      · have c1 := World.rowIs.cell HRB.out (show j < n + 1 by omega)
        have c2 := World.rowIs.cell HRA.out (show j < n by omega)
        rw [ins_lt hkl hjl] at c1
        have i1 : (j : Int) < (n : Int) + 1 := by omega
        have i2 : (j : Int) < (n : Int) := by omega
        go_wp2
        go_quiet (fail)
        go_wp2
        go_roundw
        case rel => exact ⟨j + 1, by omega, by go_num, _, rfl⟩
        case measure => simp [intOf]; omega
      · go_wp2
        go_loopw [14] (fun i wq => ∃ j : Nat, n ≤ j ∧ j ≤ n ∧ i = .int .i64 (j : Int) ∧ ∃ m', wq = w8.drewN m') (fun i _ => n - (intOf i).toNat)
        case atStart => exact ⟨n, Nat.le_refl _, (Nat.le_refl n), rfl, _, rfl⟩
        case round =>
          obtain ⟨j, hj0, hj, rfl, m', hwq⟩ := hrel
          subst hwq
          by_cases hjl : j < n
          · have c1 := World.rowIs.cell HRB.out (show j + 1 < n + 1 by omega)
            have c2 := World.rowIs.cell HRA.out hjl
            rw [ins_gt hkl hj0] at c1
            have i1 : (j : Int) + 1 < (n : Int) + 1 := by omega
            have i2 : (j : Int) < (n : Int) := by omega
            have i3 : IntKind.i64.wrap ((j : Int) + 1) = (j : Int) + 1 := by rw [IntKind.wrap_i64]; omega
            have i4 : ((j : Int) + 1).toNat = j + 1 := by omega
            have i5 : (0 : Int) ≤ (j : Int) + 1 := by omega
            go_wp2
            go_quiet (fail)
            go_wp2
            go_roundw
            case rel => exact ⟨j + 1, by omega, by omega, by go_num, _, rfl⟩
            case measure => simp [intOf]; omega
          · go_wp2
            go_ret
            exact ⟨rfl, below_dn HB8.out _⟩
  · have news3 := FRow.news (FRow.drop HF5.out hkn)
    rw [Nat.zero_add] at news3
    have NEWS3 := hidden news3
    clear news3
    have hkn' : k < n := by omega
    go_wp2_with (first | (at_builtin; refine wpList_append_fits _ rfl (.tmp 54) (.tmp 57) 25 rfl w2.heap.size 47 i0 13 Try.underlying25 hi hz1 w2.heap.size (k + 1) (n + 1) (evList (ps.take k) ++ evCells pa ki) rfl OWN5.out ⟨gF, k * 13, none⟩ (n - k) (n - k) (evList (ps.drop k)) rfl LEN3.out NEWS3.out (evList_one _) (by omega) ?_))
    rw [show k + 1 + (n - k) = n + 1 by omega]
    intro w6 own6 grow6
    have bel6 : Below w2.heap.size w2 w6 := HBL5.out.grown grow6 HBL5.out.size (fun b hb => by simp at hb; omega)
    have own6' : w6.ownsRow w2.heap.size 47 13 (.slice (some ⟨w2.heap.size, 0, none⟩) (n + 1) (n + 1)) (n + 1) (evList (ins ps k pa ki)) := by
      rw [← ins_cells, List.append_assoc]; exact own6
    have HF6 := hidden (FRow.below HF2.out bel6 (Nat.le_refl _))
    have HG6 := hidden (frow_owns own6')
    have HB6 : Hid (Below w.heap.size w w6) := HB2.out.trans (bel6.mono HB2.out.size)
    obtain ⟨gG, hgG⟩ : ∃ g, g = w2.heap.size := ⟨_, rfl⟩
    rw [← hgG] at HG6 ⊢
    clear bel6 own6' own6 grow6 OWN5 hgG HBL5 HBL4 HBL3
    go_wp2_with fail
    refine (kinds8 (some ⟨gF, 0, none⟩) n n false false ps w6 HF6.out (by omega)).mono ?_
    rintro e w7 ⟨g1, hg1, rfl, hrow7, bel7⟩
    have HG7 := hidden (FRow.below HG6.out bel7 (Nat.le_refl _))
    have HB7 : Hid (Below w.heap.size w w7) := HB6.out.trans (bel7.mono HB6.out.size)
    have HR7 := hidden hrow7
    clear hrow7 bel7 hg1
    go_wp2_with fail
    refine (kinds8 (some ⟨gG, 0, none⟩) (n + 1) (n + 1) false false (ins ps k pa ki) w7 HG7.out (by omega)).mono ?_
    rintro e w8 ⟨g2, hg2, rfl, hrow8, bel8⟩
    have HB8 : Hid (Below w.heap.size w w8) := HB7.out.trans (bel8.mono HB7.out.size)
    have HRA := hidden (row_below HR7.out bel8 (Nat.le_refl _))
    have HRB := hidden hrow8
    clear hrow8 bel8 hg2
    have hkl : k ≤ ps.length := by rw [HL.out]; exact hkn
    have ck := World.rowIs.cell HRB.out (show k < n + 1 by omega)
    rw [ins_at hkl] at ck
    have ik : (k : Int) < (n : Int) + 1 := by omega
    go_wp2
    clear ck ik
    go_loopw [13] (fun i wq => ∃ j : Nat, j ≤ k ∧ i = .int .i64 (j : Int) ∧ ∃ m', wq = w8.drewN m') (fun i _ => k - (intOf i).toNat)
    case atStart => exact ⟨0, Nat.zero_le _, rfl, 0, rfl⟩
    case round =>
      obtain ⟨j, hj, rfl, m', hwq⟩ := hrel
      subst hwq
      by_cases hjl : j < k
      · have c1 := World.rowIs.cell HRB.out (show j < n + 1 by omega)
        have c2 := World.rowIs.cell HRA.out (show j < n by omega)
        rw [ins_lt hkl hjl] at c1
        have i1 : (j : Int) < (n : Int) + 1 := by omega
        have i2 : (j : Int) < (n : Int) := by omega
        go_wp2
        go_quiet (fail)
        go_wp2
        go_roundw
        case rel => exact ⟨j + 1, by omega, by go_num, _, rfl⟩
        case measure => simp [intOf]; omega
      · go_wp2
        go_loopw [14] (fun i wq => ∃ j : Nat, k ≤ j ∧ j ≤ n ∧ i = .int .i64 (j : Int) ∧ ∃ m', wq = w8.drewN m') (fun i _ => n - (intOf i).toNat)
        case atStart => exact ⟨k, Nat.le_refl _, hkn, rfl, _, rfl⟩
        case round =>
          obtain ⟨j, hj0, hj, rfl, m', hwq⟩ := hrel
          subst hwq
          by_cases hjl : j < n
          · have c1 := World.rowIs.cell HRB.out (show j + 1 < n + 1 by omega)
            have c2 := World.rowIs.cell HRA.out hjl
            rw [ins_gt hkl hj0] at c1
            have i1 : (j : Int) + 1 < (n : Int) + 1 := by omega
            have i2 : (j : Int) < (n : Int) := by omega
            have i3 : IntKind.i64.wrap ((j : Int) + 1) = (j : Int) + 1 := by rw [IntKind.wrap_i64]; omega
            have i4 : ((j : Int) + 1).toNat = j + 1 := by omega
            have i5 : (0 : Int) ≤ (j : Int) + 1 := by omega
            go_wp2
            go_quiet (fail)
            go_wp2
            go_roundw
            case rel => exact ⟨j + 1, by omega, by omega, by go_num, _, rfl⟩
            case measure => simp [intOf]; omega
          · go_wp2
            go_ret
            exact ⟨rfl, below_dn HB8.out _⟩

end Go.Proofs.Qxb6615154a

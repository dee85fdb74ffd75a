import Derived.Test.Qxb6615154aKinds
namespace Go.Proofs.Qxb6615154a
open Go.RowKit
set_option linter.unusedVariables false
set_option linter.unusedSimpArgs false

theorem below_dn {B : Nat} {w w' : World} (h : Below B w w') (m : Nat) : Below B w (w'.drewN m) := ⟨h.os, h.tape, h.output, h.size, h.block⟩
theorem row_below {B : Nat} {w w' : World} {g t n : Nat} {f : Nat → Value} (h : w.rowIs g t n f) (hb : Below B w w') (hB : w.heap.size ≤ B) : w'.rowIs g t n f := h.of_block (hb.block g (by have := h.lt; omega))

set_option maxRecDepth 100000 in
set_option maxHeartbeats 2000000 in
theorem law3 (a : Option Addr) (n c : Nat) (ps : List (ByteArray × ByteArray)) (cut : Int) (names : Bool) (w : World) (hs : ERow w a n ps) (hm : n ≤ maxLen) :
    Calls Try.prog 3 #[.slice a n c, .int .i64 cut, .bool names] w fun e w' => e = .returned (.bool true) ∧ Below w.heap.size w w' := by
  have HS : Hid (ERow w a n ps) := hs
  have hl := hs.1
  have HL : Hid _ := hl
  have hm' := hm
  unfold maxLen at hm'
  clear hs hl
  go_enter Try.func3, Try.ntmps3
  go_wp2_with fail
  refine (bytes5_any a n c ps cut names w HS.out hm).mono ?_
  rintro e w ⟨⟨rr, rfl⟩, rfl⟩
  cases rr with
  | false =>
    go_wp2
    go_ret
    exact ⟨rfl, Below.refl _ _⟩
  | true =>
  go_wp2_with fail
  refine (big6_any a n c ps _ HS.out hm).mono ?_
  rintro e w1 ⟨rfl | ⟨rfl, hn⟩, q1, rfl⟩
  · go_wp2
    go_ret
    exact ⟨rfl, below_dn (Below.refl _ _) _⟩
  clear hm hm'
  by_cases b3 : cut < 0
  · have hd : decide (cut < 0) = true := by simpa using b3
    go_wp2
    go_ret
    exact ⟨rfl, below_dn (Below.refl _ _) _⟩
  have hd : decide (cut < 0) = false := by simpa using b3
  by_cases b4 : (n : Int) < cut
  · go_wp2
    go_ret
    exact ⟨rfl, below_dn (Below.refl _ _) _⟩
  obtain ⟨k, rfl⟩ : ∃ k : Nat, cut = k := Int.eq_ofNat_of_zero_le (by omega)
  have hkn : k ≤ n := by omega
  have HB1 : Hid (Below w.heap.size w (w.drewN q1)) := below_dn (Below.refl _ _) _
  have HS1 : Hid (ERow (w.drewN q1) a n ps) := ERow.below HS.out HB1.out (Nat.le_refl _)
  go_wp2_with fail
  refine (events7 a n c ps _ HS1.out hn).mono ?_
  rintro e w2 ⟨rfl, hrow2, bel2⟩
  obtain ⟨gF, hgF⟩ : ∃ g, g = (w.drewN q1).heap.size := ⟨_, rfl⟩
  rw [← hgF] at hrow2 ⊢
  have HF2 : Hid (FRow w2 (some ⟨gF, 0, none⟩) n ps) := hrow2
  have HB2 : Hid (Below w.heap.size w w2) := HB1.out.trans (bel2.mono (Nat.le_refl _))
  clear hrow2 bel2 hgF
  go_wp2_with fail
  refine (kinds8 (some ⟨gF, 0, none⟩) n n names false ps w2 HF2.out (by omega)).mono ?_
  rintro e w3 ⟨g1, hg1, rfl, hrow3, bel3⟩
  have HF3 : Hid (FRow w3 (some ⟨gF, 0, none⟩) n ps) := FRow.below HF2.out bel3 (Nat.le_refl _)
  have HB3 : Hid (Below w.heap.size w w3) := HB2.out.trans (bel3.mono HB2.out.size)
  have HR3 : Hid _ := hrow3
  clear hrow3 bel3 hg1
  go_wp2_with fail
  refine (kinds8 (some ⟨gF, 0, none⟩) k n names false (ps.take k) w3 (FRow.take HF3.out hkn) (by omega)).mono ?_
  rintro e w4 ⟨g2, hg2, rfl, hrow4, bel4⟩
  have HF4 : Hid (FRow w4 (some ⟨gF, 0, none⟩) n ps) := FRow.below HF3.out bel4 (Nat.le_refl _)
  have HB4 : Hid (Below w.heap.size w w4) := HB3.out.trans (bel4.mono HB3.out.size)
  have HR3 : Hid _ := row_below HR3.out bel4 (Nat.le_refl _)
  have HR4 : Hid _ := hrow4
  clear hrow4 bel4 hg2
  by_cases hke : n = k
  · subst hke
    go_wp2_with fail
    refine (kinds8 (some ⟨gF, 0, none⟩) 0 0 (!names) false [] w4 ⟨rfl, .inl rfl⟩ (by omega)).mono ?_
    rintro e w5 ⟨g3, hg3, rfl, hrow5, bel5⟩
    have HB5 : Hid (Below w.heap.size w w5) := HB4.out.trans (bel5.mono HB4.out.size)
    have HR3 : Hid (w5.rowIs g1 35 n (fun j => .string (kd ps j))) := row_below HR3.out bel5 (Nat.le_refl _)
    have HR4 : Hid (w5.rowIs g2 35 n (fun j => .string (kd (ps.take n) j))) := row_below HR4.out bel5 (Nat.le_refl _)
    have HR5 : Hid _ := hrow5
    have HS5 : Hid (ERow w5 a n ps) := ERow.below HS.out HB5.out (Nat.le_refl _)
    clear hrow5 bel5 hg3
    go_wp2
    go_loopw [11] (fun i wq => ∃ j : Nat, j ≤ n ∧ i = .int .i64 (j : Int) ∧ ∃ m', wq = w5.drewN m') (fun i _ => n - (intOf i).toNat)
    case atStart => exact ⟨0, Nat.zero_le _, rfl, 0, rfl⟩
    case round =>
      obtain ⟨j, hj, rfl, m', hwq⟩ := hrel
      subst hwq
      by_cases hjl : j < n
      · have c1 := World.rowIs.cell HR3.out (show j < n by omega)
        have c2 := World.rowIs.cell HR4.out hjl
        rw [kd_take hjl] at c2
        have i1 : (j : Int) < (n : Int) := by omega
        have i2 : (j : Int) < (n : Int) := by omega
        go_wp2
        go_quiet (fail)
        go_wp2
        go_roundw
        case rel => exact ⟨j + 1, by omega, by go_num, _, rfl⟩
        case measure => simp [intOf]; omega
      · go_wp2
        go_loopw [12] (fun i wq => ∃ j : Nat, j ≤ 0 ∧ i = .int .i64 (j : Int) ∧ ∃ m', wq = w5.drewN m') (fun i _ => 0 - (intOf i).toNat)
        case atStart => exact ⟨0, Nat.zero_le _, rfl, _, rfl⟩
        case round =>
          obtain ⟨j, hj, rfl, m', hwq⟩ := hrel
          subst hwq
          by_cases hjl : j < 0
          · omega
          · have hg : ((n : Int) == (n : Int)) = true := by simp
            go_wp2
            go_quiet (fail)
            go_wp2
            go_ret
            exact ⟨rfl, below_dn (below_dn HB5.out _) _⟩
  · have hkn' : k < n := by omega
    go_wp2_with fail
    refine (kinds8 (some ⟨gF, k * 13, none⟩) (n - k) (n - k) (!names) false (ps.drop k) w4 (by have := FRow.drop HF4.out hkn; rwa [Nat.zero_add] at this) (by omega)).mono ?_
    rintro e w5 ⟨g3, hg3, rfl, hrow5, bel5⟩
    have HB5 : Hid (Below w.heap.size w w5) := HB4.out.trans (bel5.mono HB4.out.size)
    have HR3 : Hid (w5.rowIs g1 35 n (fun j => .string (kd ps j))) := row_below HR3.out bel5 (Nat.le_refl _)
    have HR4 : Hid (w5.rowIs g2 35 k (fun j => .string (kd (ps.take k) j))) := row_below HR4.out bel5 (Nat.le_refl _)
    have HR5 : Hid _ := hrow5
    have HS5 : Hid (ERow w5 a n ps) := ERow.below HS.out HB5.out (Nat.le_refl _)
    clear hrow5 bel5 hg3
    go_wp2
    go_loopw [11] (fun i wq => ∃ j : Nat, j ≤ k ∧ i = .int .i64 (j : Int) ∧ ∃ m', wq = w5.drewN m') (fun i _ => k - (intOf i).toNat)
    case atStart => exact ⟨0, Nat.zero_le _, rfl, 0, rfl⟩
    case round =>
      obtain ⟨j, hj, rfl, m', hwq⟩ := hrel
      subst hwq
      by_cases hjl : j < k
      · have c1 := World.rowIs.cell HR3.out (show j < n by omega)
        have c2 := World.rowIs.cell HR4.out hjl
        rw [kd_take hjl] at c2
        have i1 : (j : Int) < (n : Int) := by omega
        have i2 : (j : Int) < (k : Int) := by omega
        go_wp2
        go_quiet (fail)
        go_wp2
        go_roundw
        case rel => exact ⟨j + 1, by omega, by go_num, _, rfl⟩
        case measure => simp [intOf]; omega
      · go_wp2
        go_loopw [12] (fun i wq => ∃ j : Nat, j ≤ (n - k) ∧ i = .int .i64 (j : Int) ∧ ∃ m', wq = w5.drewN m') (fun i _ => (n - k) - (intOf i).toNat)
        case atStart => exact ⟨0, Nat.zero_le _, rfl, _, rfl⟩
        case round =>
          obtain ⟨j, hj, rfl, m', hwq⟩ := hrel
          subst hwq
          by_cases hjl : j < (n - k)
          · have c1 := World.rowIs.cell HR3.out (show k + j < n by omega)
            have c2 := World.rowIs.cell HR5.out (show j < (n - k) by omega)
            rw [kd_drop] at c2
            have i1 : (k : Int) + (j : Int) < (n : Int) := by omega
            have i2 : (j : Int) < ((n - k) : Int) := by omega
            go_wp2
            go_quiet (fail)
            go_wp2
            go_roundw
            case rel => exact ⟨j + 1, by omega, by go_num, _, rfl⟩
            case measure => simp [intOf]; omega
          · obtain ⟨b, off, s, t, rfl, hb, d1, d2, hp, m1, m2⟩ := ERow.pick HS5.out hkn'
            have c1 := World.rowIs.cell HR3.out hkn'
            rw [kd_at hp] at c1
            have hg : ((k : Int) == (n : Int)) = false := by simp only [beq_eq_false_iff_ne]; omega
            have i1 : (k : Int) < (n : Int) := by omega
            clear hp
            go_wp2
            go_quiet (fail)
            go_wp2
            go_ret
            exact ⟨rfl, below_dn (below_dn HB5.out _) _⟩

end Go.Proofs.Qxb6615154a

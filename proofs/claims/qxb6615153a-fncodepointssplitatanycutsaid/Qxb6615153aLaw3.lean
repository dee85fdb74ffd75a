import Derived.Test.Qxb6615153aPlain3
namespace Go.Proofs.Qxb6615153a
open Go.RowKit

/-- the row 'want' while it is filled: the first k numbers of ys stand -/
theorem want_step {wr : World} {g n k : Nat} {ys : List Int} (h : wr.rowIs g 5 n (fun j => if j < k then .int .u8 (ys.getD j 0) else .int .u8 0)) : (wr.setCell ⟨g, k, none⟩ (.int .u8 (ys.getD k 0))).rowIs g 5 n (fun j => if j < k + 1 then .int .u8 (ys.getD j 0) else .int .u8 0) :=
  (h.set k (.int .u8 (ys.getD k 0))).congr (fun i _ => by
    by_cases e : i = k
    · subst e; simp
    · by_cases e2 : i < k
      · simp [e, e2, show i < k + 1 by omega]
      · simp [e, e2, show ¬ i < k + 1 by omega])

theorem want_done {wr : World} {g n : Nat} {ys : List Int} (hl : ys.length = n) (h : wr.rowIs g 5 n (fun j => if j < n then .int .u8 (ys.getD j 0) else .int .u8 0)) : BRow wr (some ⟨g, 0, none⟩) n ys :=
  ⟨hl, .inr ⟨g, 0, rfl, h.lt, fun i hi => by rw [Nat.zero_add, h.cell hi]; simp [hi]⟩⟩

theorem getD_left {zs ys : List Int} {j : Nat} (h : j < zs.length) : (zs ++ ys).getD j 0 = zs.getD j 0 := by
  simp [List.getElem?_append_left h]
theorem getD_right {zs ys : List Int} {n j : Nat} (h : zs.length = n) : (zs ++ ys).getD (n + j) 0 = ys.getD j 0 := by
  subst h
  rw [List.getD_eq_getElem?_getD, List.getD_eq_getElem?_getD, List.getElem?_append_right (by omega), Nat.add_sub_cancel_left]

theorem BRow.drewN {w : World} {a : Option Addr} {n : Nat} {zs : List Int} (h : BRow w a n zs) (m : Nat) : BRow (w.drewN m) a n zs := h
theorem Wr.drewN {w : World} {g : Nat} {v0 v1 : Value} {c2 c3 c4 c5 c6 c7 : Int} (h : Wr w g v0 v1 c2 c3 c4 c5 c6 c7) (m : Nat) : Wr (w.drewN m) g v0 v1 c2 c3 c4 c5 c6 c7 := h

/-- behind a write into a writer whose row lies from 'base' on, all below 'base' is as it was -/
theorem cp_below {base g : Nat} {w0 w w' : World} {v : Value} {n : Nat} {xs : List Value} (h : Kept (fun k => k = g ∨ v.ownBlock = some k) w w') (hb : Below base w0 w) (hbase : base ≤ w.heap.size) (hg : base ≤ g) (hown : w.ownsRow base 5 1 v n xs) : Below base w0 w' :=
  h.below hb hbase (fun j hj hS => by
    rcases hS with rfl | h
    · omega
    · have := (hown.lt j h).1; omega)

theorem cut_owns {w : World} {base n1 c : Nat} {v : Value} {z1 : List Int} {s : ByteArray} (hc : c ≤ s.size)
    (h : w.ownsRow base 5 1 v (n1 + (s.extract 0 c).size + (s.extract c s.size).size) (z1.map (Value.int .u8) ++ byteCells (s.extract 0 c) ++ byteCells (s.extract c s.size))) :
    w.ownsRow base 5 1 v (n1 + s.size) ((z1 ++ bytesOf s).map (Value.int .u8)) := by
  have e1 : (s.extract 0 c).size = c := by simp; omega
  have e2 : (s.extract c s.size).size = s.size - c := by simp
  rw [e1, e2, show n1 + c + (s.size - c) = n1 + s.size by omega, byteCells_eq, byteCells_eq, List.append_assoc, ← List.map_append, bytesOf_cut s c hc, ← List.map_append] at h
  exact h

theorem whole_owns {w : World} {base n1 : Nat} {v : Value} {z1 : List Int} {s : ByteArray}
    (h : w.ownsRow base 5 1 v (n1 + s.size) (z1.map (Value.int .u8) ++ byteCells s)) : w.ownsRow base 5 1 v (n1 + s.size) ((z1 ++ bytesOf s).map (Value.int .u8)) := by
  rw [byteCells_eq, ← List.map_append] at h
  exact h

set_option maxRecDepth 100000 in
set_option maxHeartbeats 4000000 in
theorem law3 (a0 : Option Addr) (n0 k0 : Nat) (z0 : List Int) (a1 : Option Addr) (n1 k1 : Nat) (z1 : List Int) (c2 c3 c4 c5 c6 c7 : Int) (s : ByteArray) (cut : Int) (w : World)
    (h0 : BRow w a0 n0 z0) (h0n : a0 = none → n0 = 0) (h1 : BRow w a1 n1 z1) (h1n : a1 = none → n1 = 0) (m0 : n0 ≤ maxLen) (m1 : n1 ≤ maxLen) (ms : s.size ≤ maxLen) :
    Calls Try.prog 3 #[.slice a0 n0 k0, .slice a1 n1 k1, .int .i64 c2, .int .i64 c3, .int .i64 c4, .int .i64 c5, .int .i64 c6, .int .i64 c7, .string s, .int .i64 cut] w fun e w' => e = .returned (.bool true) ∧ Below w.heap.size w w' := by
  have M0 := m0
  have M1 := m1
  have MS := ms
  unfold maxLen at m0 m1 ms
  go_enter Try.func3, Try.ntmps3
  go_wp2_with fail
  refine (bytes9_any a0 n0 k0 a1 n1 k1 c2 c3 c4 c5 c6 c7 s cut w M0 M1 MS).mono ?_
  rintro e w' ⟨⟨r, rfl⟩, rfl⟩
  clear M0 M1 MS
  cases r with
  | false =>
    go_wp2
    go_ret
    exact ⟨rfl, Below.refl _ _⟩
  | true =>
  by_cases b0 : n0 ≤ 262144
  case neg =>
    go_wp2
    go_ret
    exact ⟨rfl, Below.refl _ _⟩
  by_cases b1 : n1 ≤ 262144
  case neg =>
    go_wp2
    go_ret
    exact ⟨rfl, Below.refl _ _⟩
  by_cases b2 : s.size ≤ 262144
  case neg =>
    go_wp2
    go_ret
    exact ⟨rfl, Below.refl _ _⟩
  by_cases b3 : cut < 0
  · have hd : decide (cut < 0) = true := by simpa using b3
    go_wp2
    go_ret
    exact ⟨rfl, Below.refl _ _⟩
  by_cases b4 : (s.size : Int) < cut
  · have hd : decide (cut < 0) = false := by simpa using b3
    go_wp2
    go_ret
    exact ⟨rfl, Below.refl _ _⟩
  obtain ⟨c, rfl⟩ : ∃ c : Nat, cut = c := Int.eq_ofNat_of_zero_le (by omega)
  have hcs : c ≤ s.size := by omega
  have hd : decide ((c : Int) < 0) = false := decide_eq_false b3
  have hl0 := h0.1
  have hl1 := h1.1
  go_wp2_with fail
  refine (copy_any a0 n0 k0 z0 _ (by omega) h0 h0n).mono ?_
  rintro e w1 ⟨ao0, d0, rfl, hn0, hB0, _, bel1⟩
  have hB1 := h1.below bel1 (Nat.le_refl _)
  clear h0 h0n h1
  go_wp2_with fail
  refine (copy_any a1 n1 k1 z1 w1 (by omega) hB1 h1n).mono ?_
  rintro e w2 ⟨ao1, d1, rfl, hn1, hC1, _, bel2⟩
  have hC0 := hB0.below bel2 (Nat.le_refl _)
  have B02 : Below w'.heap.size w' w2 := bel1.trans (bel2.mono bel1.size)
  clear hB0 hB1 h1n bel1 bel2
  have hmk := run_make_row' (P := Try.prog) 22 5 (.int .u8 0) 1 Try.underlying22 Try.info5 rfl .i64 .i64 (n1 + s.size) (by omega) (by omega)
  have ec : ((n1 + s.size : Nat) : Int) = (n1 : Int) + (s.size : Int) := by omega
  rw [ec] at hmk
  clear ec
  go_wp2
  obtain ⟨ys, hys⟩ : ∃ ys, ys = z1 ++ bytesOf s := ⟨_, rfl⟩
  have HY : Hid _ := hys
  have hly : Hid (ys.length = n1 + s.size) := by show ys.length = _; rw [hys, List.length_append, bytesOf_length, hl1]
  clear hys
  have HC1 : Hid _ := hC1
  have HC0 : Hid _ := hC0
  have HB02 : Hid _ := B02
  have HL1 : Hid _ := hl1
  clear hC1 hC0 B02 hmk hl0 hl1
  go_loopw [22] (fun i wr => ∃ k : Nat, k ≤ n1 ∧ i = .int .i64 k ∧ wr.rowIs w2.heap.size 5 (n1 + s.size) (fun j => if j < k then .int .u8 (ys.getD j 0) else .int .u8 0) ∧ Below w2.heap.size w2 wr)
    (fun i _ => n1 - (intOf i).toNat)
  case atStart => exact ⟨0, Nat.zero_le _, rfl, (World.rowIs_made w2 (.int .u8 0) (n1 + s.size) 5).congr (fun i _ => by simp), (Below.refl _ _).alloc (Nat.le_refl _) _⟩
  case round =>
    obtain ⟨k, hk, rfl, hrow, hbel⟩ := hrel
    by_cases hlt : k < n1
    · rcases HC1.out.2 with h | ⟨b, off, rfl, hb, hc⟩
      · omega
      have e1 : z1.getD k 0 = ys.getD k 0 := by rw [HY.out, getD_left (by have := HL1.out; omega)]
      have c1 : wr.cell? ⟨b, off + k, none⟩ = some (.int .u8 (ys.getD k 0)) := by rw [hbel.cell (by exact hb), hc k hlt, e1]
      have cc := hrow.cell (show k < n1 + s.size by omega)
      have cf := hrow.frozen k
      have HR : Hid _ := want_step hrow
      have Bl : Hid (Below w2.heap.size w2 (wr.setCell ⟨w2.heap.size, k, none⟩ (.int .u8 (ys.getD k 0)))) := hbel.setCell (by simp) _
      clear hrow hbel hc e1
      go_wp2
      go_roundw
      case rel => exact ⟨k + 1, by omega, by go_num, HR.out, Bl.out⟩
      case measure => simp [intOf]; omega
    · obtain rfl : n1 = k := by omega
      have HR0 : Hid _ := hrow
      have HBl0 : Hid _ := hbel
      clear hrow hbel
      go_wp2
      go_loopw [23] (fun i wq => ∃ k : Nat, k ≤ s.size ∧ i = .int .i64 k ∧ wq.rowIs w2.heap.size 5 (n1 + s.size) (fun j => if j < n1 + k then .int .u8 (ys.getD j 0) else .int .u8 0) ∧ Below w2.heap.size w2 wq)
        (fun i _ => s.size - (intOf i).toNat)
      case atStart => exact ⟨0, Nat.zero_le _, rfl, HR0.out, HBl0.out⟩
      case round =>
        clear HR0 HBl0
        obtain ⟨k, hk, rfl, hrow, hbel⟩ := hrel
        by_cases hlt : k < s.size
        · have e1 : ys.getD (n1 + k) 0 = (s[k].toNat : Int) := by rw [HY.out, getD_right HL1.out, bytesOf_at s k hlt]
          have cc := hrow.cell (show n1 + k < n1 + s.size by omega)
          have cf := hrow.frozen (n1 + k)
          have HR : Hid _ := want_step hrow
          rw [e1] at HR
          have Bl : Hid (Below w2.heap.size w2 (wr.setCell ⟨w2.heap.size, n1 + k, none⟩ (.int .u8 (s[k].toNat)))) := hbel.setCell (by simp) _
          clear hrow hbel e1
          go_wp2
          go_roundw
          case rel => exact ⟨k + 1, by omega, by go_num, HR.out, Bl.out⟩
          case measure => simp [intOf]; omega
        · obtain rfl : k = s.size := by omega
          have hW : BRow wr (some ⟨w2.heap.size, 0, none⟩) (n1 + s.size) ys := want_done hly.out hrow
          have hN0 := BRow.below HC0.out hbel (Nat.le_refl _)
          have hN1 := BRow.below HC1.out hbel (Nat.le_refl _)
          have B04 : Below w'.heap.size w' wr := HB02.out.trans (hbel.mono HB02.out.size)
          obtain ⟨gw, hgw⟩ : ∃ gw, gw = w2.heap.size := ⟨_, rfl⟩
          rw [← hgw] at hW ⊢
          clear hgw hrow hbel HC0 HC1 HB02 hly
          have e1 : (s.extract 0 c).size ≤ s.size := by simp; omega
          have e2 : (s.extract c s.size).size ≤ s.size := by simp
          go_wp2_with fail
          refine (copy_any ao0 n0 d0 z0 wr (by omega) hN0 hn0).mono ?_
          rintro e w5 ⟨ao5, d5, rfl, _, hF5, _, bel5⟩
          have B05 := B04.trans (bel5.mono B04.size)
          have hN0 := hN0.below bel5 (Nat.le_refl _)
          have hN1 := hN1.below bel5 (Nat.le_refl _)
          have hW := hW.below bel5 (Nat.le_refl _)
          clear bel5 B04
          go_wp2_with fail
          refine (copy_any ao1 n1 d1 z1 w5 (by omega) hN1 hn1).mono ?_
          rintro e w6 ⟨ao6, d6, rfl, _, _, hown6, bel6⟩
          go_wp2_with fail
          refine (new_any ao5 n0 d5 ao6 n1 d6 c2 c3 c4 c5 c6 c7 w6).mono ?_
          rintro e w7 ⟨rfl, hw7, hw7e⟩
          have bel7 : Below w5.heap.size w5 w7 := by rw [hw7e]; exact bel6.alloc bel6.size _
          have hown7 : w7.ownsRow w5.heap.size 5 1 (.slice ao6 n1 d6) n1 (z1.map (Value.int .u8)) := by rw [hw7e]; exact hown6.alloc _
          obtain ⟨g1, hg1⟩ : ∃ g, g = w6.heap.size := ⟨_, rfl⟩
          rw [← hg1] at hw7 ⊢
          have hg1' : w5.heap.size ≤ g1 := by rw [hg1]; exact bel6.size
          clear hg1 hw7e bel6 hown6
          go_wp2_with fail
          refine (zzcp_any g1 w5.heap.size (.slice ao5 n0 d5) _ c2 c3 c4 c5 c6 c7 n1 _ (s.extract 0 c) w7 hw7 hown7 bel7.size (by omega)).mono ?_
          rintro e w8 ⟨rfl, v8, hw8, hown8, _, hk8⟩
          have bel8 := cp_below hk8 bel7 bel7.size hg1' hown7
          clear hk8 bel7 hown7 hw7
          go_wp2_with fail
          refine (zzcp_any g1 w5.heap.size (.slice ao5 n0 d5) v8 c2 c3 c4 c5 c6 c7 _ _ (s.extract c s.size) w8 hw8 hown8 bel8.size (by omega)).mono ?_
          rintro e w9 ⟨rfl, v9, hw9, hown9, _, hk9⟩
          have bel9 := cp_below hk9 bel8 bel8.size hg1' hown8
          clear hk9 bel8 hown8 hw8
          have hown9 := cut_owns hcs hown9
          rw [← HY.out] at hown9
          obtain ⟨ao9, d9, hv9, _⟩ := slice_of_own hown9
          subst hv9
          have hR9 := brow_owns hown9
          have B09 := B05.trans (bel9.mono B05.size)
          have hN0 := hN0.below bel9 (Nat.le_refl _)
          have hN1 := hN1.below bel9 (Nat.le_refl _)
          have hW := hW.below bel9 (Nat.le_refl _)
          have hF5 := hF5.below bel9 (Nat.le_refl _)
          clear bel9 B05 hown9
          go_wp2_with fail
          refine (copy_any ao0 n0 d0 z0 w9 (by omega) hN0 hn0).mono ?_
          rintro e w10 ⟨ao10, d10, rfl, _, hF10, _, bel10⟩
          have B010 := B09.trans (bel10.mono B09.size)
          have hN0 := hN0.below bel10 (Nat.le_refl _)
          have hN1 := hN1.below bel10 (Nat.le_refl _)
          have hW := hW.below bel10 (Nat.le_refl _)
          have hF5 := hF5.below bel10 (Nat.le_refl _)
          have hR9 := hR9.below bel10 (Nat.le_refl _)
          have hw10 := hw9.below bel10 (Nat.le_refl _)
          clear bel10 B09 hw9
          go_wp2_with fail
          refine (copy_any ao1 n1 d1 z1 w10 (by omega) hN1 hn1).mono ?_
          rintro e w11 ⟨ao11, d11, rfl, _, _, hown11, bel11⟩
          go_wp2_with fail
          refine (new_any ao10 n0 d10 ao11 n1 d11 c2 c3 c4 c5 c6 c7 w11).mono ?_
          rintro e w12 ⟨rfl, hw12, hw12e⟩
          have bel12 : Below w10.heap.size w10 w12 := by rw [hw12e]; exact bel11.alloc bel11.size _
          have hown12 : w12.ownsRow w10.heap.size 5 1 (.slice ao11 n1 d11) n1 (z1.map (Value.int .u8)) := by rw [hw12e]; exact hown11.alloc _
          obtain ⟨g2, hg2⟩ : ∃ g, g = w11.heap.size := ⟨_, rfl⟩
          rw [← hg2] at hw12 ⊢
          have hg2' : w10.heap.size ≤ g2 := by rw [hg2]; exact bel11.size
          clear hg2 hw12e bel11 hown11
          go_wp2_with fail
          refine (zzcp_any g2 w10.heap.size (.slice ao10 n0 d10) _ c2 c3 c4 c5 c6 c7 n1 _ s w12 hw12 hown12 bel12.size (by omega)).mono ?_
          rintro e w13 ⟨rfl, v13, hw13, hown13, _, hk13⟩
          have bel13 := cp_below hk13 bel12 bel12.size hg2' hown12
          clear hk13 bel12 hown12 hw12
          have hown13 := whole_owns hown13
          rw [← HY.out] at hown13
          obtain ⟨ao13, d13, hv13, _⟩ := slice_of_own hown13
          subst hv13
          have hR13 := brow_owns hown13
          have HB : Hid _ := B010.trans (bel13.mono B010.size)
          have hN0 := hN0.below bel13 (Nat.le_refl _)
          have hW := hW.below bel13 (Nat.le_refl _)
          have hF5 := hF5.below bel13 (Nat.le_refl _)
          have hF10 := hF10.below bel13 (Nat.le_refl _)
          have hR9 := hR9.below bel13 (Nat.le_refl _)
          have hw1 := hw10.below bel13 (Nat.le_refl _)
          clear bel13 B010 hown13 hw10 hN1
          go_wp2_with fail
          refine (fields_any g1 _ _ c2 c3 c4 c5 c6 c7 w13 hw1).mono ?_
          rintro e w14 ⟨rfl, m14, rfl⟩
          go_wp2_with fail
          refine (fields_any g2 _ _ c2 c3 c4 c5 c6 c7 _ (hw13.drewN _)).mono ?_
          rintro e w15 ⟨rfl, m15, rfl⟩
          clear hw1 hw13
          go_wp2_with fail
          refine (eq_any ao9 d9 _ _ (n1 + s.size) ys _ (by omega) (hR9.drewN _) (hW.drewN _)).mono ?_
          rintro e w16 ⟨rfl, m16, rfl⟩
          go_wp2_with fail
          refine (eq_any ao13 d13 _ _ (n1 + s.size) ys _ (by omega) (hR13.drewN _) (hW.drewN _)).mono ?_
          rintro e w16 ⟨rfl, m17, rfl⟩
          go_wp2_with fail
          refine (eq_any ao9 d9 ao13 d13 (n1 + s.size) ys _ (by omega) (hR9.drewN _) (hR13.drewN _)).mono ?_
          rintro e w16 ⟨rfl, m18, rfl⟩
          go_wp2_with fail
          refine (eq_any ao5 d5 ao0 d0 n0 z0 _ (by omega) (hF5.drewN _) (hN0.drewN _)).mono ?_
          rintro e w16 ⟨rfl, m19, rfl⟩
          go_wp2_with fail
          refine (eq_any ao10 d10 ao0 d0 n0 z0 _ (by omega) (hF10.drewN _) (hN0.drewN _)).mono ?_
          rintro e w16 ⟨rfl, m20, rfl⟩
          clear hR9 hW hR13 hF5 hF10 hN0
          go_wp2
          go_ret
          exact ⟨rfl, Below.drewN HB.out _⟩

end Go.Proofs.Qxb6615153a

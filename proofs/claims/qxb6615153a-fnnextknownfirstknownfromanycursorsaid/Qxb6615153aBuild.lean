import Derived.Test.Qxb6615153aBld
import Derived.Deep.RegionWith
namespace Go.Proofs.Qxb6615153a
open Go.RowKit
set_option linter.unusedVariables false
set_option linter.unusedSimpArgs false

theorem Try.info56 : (Try.prog.info? 56).map (fun i => (i.zero, i.size, i.bytes)) = some (some (.pointer none), 1, 8) := by kernel_rfl
theorem Try.info101 : (Try.prog.info? 101).map (fun i => (i.zero, i.size, i.bytes)) = some (some (.slice none 0 0), 1, 24) := by kernel_rfl

theorem bld_start (w : World) (ls : List (List Nat)) (r : Nat) : Bld w ls r w.heap.size (w.heap.size + 1) (w.heap.size + 2) 0 ((w.alloc (.cells (madeCells #[.pointer none] ls.length) 56)).alloc (.cells (madeCells #[.slice none 0 0] ls.length) 101)) := by
  have r1 := (World.rowIs_made w (.pointer none) ls.length 56).alloc (.cells (madeCells #[.slice none 0 0] ls.length) 101)
  have r2 := World.rowIs_made (w.alloc (.cells (madeCells #[.pointer none] ls.length) 56)) (.slice none 0 0) ls.length 101
  have e : (w.alloc (.cells (madeCells #[.pointer none] ls.length) 56)).heap.size = w.heap.size + 1 := by simp
  rw [e] at r2
  refine ⟨((Below.refl _ _).alloc (Nat.le_refl _) _).alloc (by simp) _, by simp, by omega, fun j _ hj => r1.cell hj, fun j => r1.frozen j, fun j _ hj => r2.cell hj, fun j => r2.frozen j, fun j m hj => absurd hj (by omega)⟩

/-- the leaf just begun -/
theorem mk_start {wr w1 : World} {r k : Nat} {m : List Nat} {B : Nat} (hnd : Nd w1 wr.heap.size (.slice none 0 0) (.slice none 0 0) (.pointer none)) (hb : Below wr.heap.size wr w1) :
    Mk (w1.alloc (.cells (madeCells #[.pointer none] m.length) 94)) r B wr.heap.size w1.heap.size k m 0 0 (fun _ => 0) (.slice none 0 0) (.slice none 0 0) ∧ Below wr.heap.size wr (w1.alloc (.cells (madeCells #[.pointer none] m.length) 94)) := by
  refine ⟨⟨(Below.heap_alloc _ _ _ (lt_of_block hnd)).trans hnd, World.ownsRow_nil _ _ _ _, by simpa using World.ownsRow_nil _ _ _ _, (World.rowIs_made w1 (.pointer none) m.length 94).congr (fun i _ => by simp), by simp [Value.ownBlock], fun s h => absurd h (by omega), fun s h => absurd h (by omega)⟩, hb.alloc hb.size _⟩

theorem LayK.node {w : World} {ls : List (List Nat)} {r B gN gI k : Nat} {idx : Nat → Nat → Int} {nb : Nat → Nat} {it : Nat → Nat → Nat} (h : LayK w ls r B gN gI k idx nb it) {j : Nat} (hj : j < ls.length) :
    w.cell? ⟨gN, j, none⟩ = some (.pointer (some ⟨nb j, 0, none⟩)) ∧ w.cell? ⟨nb j, 10, none⟩ = some (.pointer (if j < k then some ⟨nb (j + 1), 0, none⟩ else none)) ∧ w.frozen? ⟨nb j, 10, none⟩ = false ∧ B ≤ nb j := by
  obtain ⟨h1, aM, cM, aI, cI, ib, h2⟩ := h j ls[j] (by simp [hj])
  exact ⟨h1, h2.next, h2.nextF, h2.nbB⟩

theorem LayK.drew {w : World} {ls : List (List Nat)} {r B gN gI k : Nat} {idx : Nat → Nat → Int} {nb : Nat → Nat} {it : Nat → Nat → Nat} (h : LayK w ls r B gN gI k idx nb it) : LayK w.drew ls r B gN gI k idx nb it :=
  h.below (Below.refl w.heap.size w).drew (Nat.le_refl _)

theorem own_weaken {w : World} {base base' e size n : Nat} {v : Value} {xs : List Value} (h : w.ownsRow base e size v n xs) (hb : base' ≤ base) : w.ownsRow base' e size v n xs := by
  refine ⟨h.1, ?_⟩
  rcases h.2 with h2 | ⟨g, cap, cur, hv, hg, r⟩
  · exact .inl h2
  · exact .inr ⟨g, cap, cur, hv, Nat.le_trans hb hg, r⟩

theorem Mk.weaken {w : World} {r B B' g gS k : Nat} {m : List Nat} {j i : Nat} {it : Nat → Nat} {vM vI : Value} (h : Mk w r B g gS k m j i it vM vI) (hb : B' ≤ B) : Mk w r B' g gS k m j i it vM vI :=
  ⟨h.nd, own_weaken h.ownI hb, own_weaken h.ownM hb, h.row, h.rowne, h.items, fun s hs => Nat.le_trans hb (h.itB s hs)⟩

/-- what buildLeaves leaves -/
def Built (w : World) (ls : List (List Nat)) (r n : Nat) (e : Ending) (w' : World) : Prop :=
  ∃ nb it, e = .returned (.tuple #[.slice (some ⟨w.heap.size, 0, none⟩) n n, .slice (some ⟨w.heap.size + 1, 0, none⟩) n n]) ∧
      LayK w' ls r (w.heap.size + 2) w.heap.size (w.heap.size + 1) (n - 1) (fun _ s => (s : Int)) nb it ∧ Below w.heap.size w w'

set_option maxRecDepth 100000 in
set_option maxHeartbeats 2000000 in
theorem build29 (a : Option Addr) (n c : Nat) (ls : List (List Nat)) (r : Nat) (w : World) (hs : LRow w a n ls) (hn : n ≤ 4096) (hf : ∀ m ∈ ls, Fit m) :
    Calls Try.prog 29 #[.slice a n c, .pointer (some ⟨r, 0, none⟩)] w (Built w ls r n) := by
  have hmk1 := run_make_row' (P := Try.prog) 50 56 (.pointer none) 8 Try.underlying50 Try.info56 rfl .i64 .i64 n (by omega) (by omega)
  have hmk2 := run_make_row' (P := Try.prog) 51 101 (.slice none 0 0) 24 Try.underlying51 Try.info101 rfl .i64 .i64 n (by omega) (by omega)
  have hl := hs.1
  have HS : Hid (LRow w a n ls) := hs
  have HF : Hid _ := hf
  have HL : Hid _ := hl
  have HB0 : Hid _ := bld_start w ls r
  rw [hl] at HB0
  clear hs hf hl
  go_enter Try.func29, Try.ntmps29
  go_wp2
  clear hmk1 hmk2
  obtain ⟨gN, hgN⟩ : ∃ g, g = w.heap.size := ⟨_, rfl⟩
  have HGN : Hid _ := hgN
  rw [← hgN] at HB0 ⊢
  clear hgN
  go_loopw [8] (fun i wr => ∃ k : Nat, k ≤ n ∧ i = .int .i64 k ∧ Bld w ls r gN (gN + 1) (gN + 2) k wr) (fun i _ => n - (intOf i).toNat)
  case atStart => exact ⟨0, Nat.zero_le _, rfl, HB0.out⟩
  case round =>
    clear HB0
    obtain ⟨k, hk, rfl, hbld⟩ := hrel
    have HBL : Hid (Bld w ls r gN (gN + 1) (gN + 2) k wr) := hbld
    clear hbld
    by_cases hlt : k < n
    · obtain ⟨b, off, aL, cL, m, rfl, hbb, hc, hm, hu, _⟩ := LRow.pick (LRow.below HS.out HBL.out.bel (Nat.le_refl _)) hlt
      have HM : Hid _ := hm
      have HU : Hid (URow wr aL m) := hu
      have hfm := HF.out m (List.mem_of_getElem? hm)
      have hroom := hfm.room
      have HFM : Hid _ := hfm
      clear hm hu hfm
      go_wp2_with fail
      refine (leaf42 wr).mono ?_
      rintro e w1 ⟨rfl, hnd, hb1⟩
      have hgSo := hb1.size
      have HM0 : Hid _ := mk_start (r := r) (k := k) (m := m) (B := wr.heap.size) hnd hb1
      clear hnd hb1
      have hmk3 := run_make_row' (P := Try.prog) 101 94 (.pointer none) 8 Try.underlying101 Try.info94 rfl .i64 .i64 m.length (by omega) (by omega)
      go_wp2
      clear hmk3
      obtain ⟨wo, hwo⟩ : ∃ wo, wo = wr := ⟨_, rfl⟩
      subst hwo
      obtain ⟨gS, hgS⟩ : ∃ g, g = w1.heap.size := ⟨_, rfl⟩
      rw [← hgS] at HM0 hgSo ⊢
      clear hgS
      have hsz : gN + 2 ≤ wo.heap.size := HBL.out.size
      go_loopw [12] (fun i wq => ∃ j : Nat, j ≤ m.length ∧ i = .int .i64 j ∧ ∃ it vI, Mk wq r wo.heap.size wo.heap.size gS k m j 0 it (.slice none 0 0) vI ∧ Below wo.heap.size wo wq) (fun i _ => m.length - (intOf i).toNat)
      case atStart => exact ⟨0, Nat.zero_le _, rfl, _, _, HM0.out.1, HM0.out.2⟩
      case round =>
        clear HM0
        obtain ⟨j, hj, rfl, it, vI, hmk, hbq⟩ := hrel
        by_cases hjl : j < m.length
        · have HK : Hid _ := hmk
          have HBQ : Hid _ := hbq
          have hszq := hbq.size
          have hcs := hmk.row.cell hjl
          rw [if_neg (Nat.lt_irrefl j)] at hcs
          have hfs := hmk.row.frozen j
          have hlts := hmk.row.lt
          clear hmk hbq
          go_wp2_with fail
          refine (item43B r _ _ _).mono ?_
          rintro e w2 ⟨rfl, hit, hb2, hs2⟩
          have hit' : ItB w2 wr.heap.size r ((k * 256 + j : Nat) : Int) (j : Int) := by simpa using hit
          have hcs' := (hb2.cell (p := ⟨gS, j, none⟩) (by exact hlts)).trans hcs
          have hfs' := (hb2.frozen (p := ⟨gS, j, none⟩) (by exact hlts)).trans hfs
          have HN : Hid _ := Mk.newItem HK.out hb2 hit' (by omega)
          have HB2 : Hid (Below wo.heap.size wo (w2.setCell ⟨gS, j, none⟩ (.pointer (some ⟨wr.heap.size, 0, none⟩)))) := (HBQ.out.trans (hb2.mono hszq)).setCell (by exact hgSo) _
          clear hit hit' hb2 hs2 hcs hfs
          go_wp2_with fail
          obtain ⟨n1, n2, n3, n4, n5, n6⟩ := HN.out
          refine (addItem44 wo.heap.size wo.heap.size (.slice none 0 0) vI (.pointer none) j _ wr.heap.size _ n1 n2 (by have := HB2.out.size; omega) (by omega)).mono ?_
          rintro e w3 ⟨rfl, vI', nd3, own3, at3, kept3⟩
          have HK3 : Hid _ := Mk.addItem n2 n3 n1 n4 HK.out.rowne n5 n6 nd3 (by simpa using own3) at3 kept3
          have HB3 : Hid (Below wo.heap.size wo w3) := kept3.below HB2.out HB2.out.size (fun b hb hS => by
            rcases hS with rfl | h
            · omega
            · have := (n2.lt b h).1; omega)
          clear n1 n2 n3 n4 n5 n6 nd3 own3 at3 kept3
          go_wp2
          go_roundw
          case rel => exact ⟨j + 1, by omega, by go_num, _, _, HK3.out, HB3.out⟩
          case measure => simp [intOf]; omega
        · obtain rfl : j = m.length := by omega
          have HK : Hid _ := hmk
          have HBQ : Hid _ := hbq
          clear hmk hbq
          obtain ⟨w4, hw4⟩ : ∃ w4, w4 = wr := ⟨_, rfl⟩
          subst hw4
          go_wp2
          go_loopw [13] (fun i wq => ∃ j : Nat, j ≤ m.length ∧ i = .int .i64 j ∧ ∃ vM, Mk wq r wo.heap.size wo.heap.size gS k m m.length j it vM vI ∧ Below wo.heap.size wo wq) (fun i _ => m.length - (intOf i).toNat)
          case atStart => exact ⟨0, Nat.zero_le _, rfl, _, HK.out, HBQ.out⟩
          case round =>
            clear HK HBQ
            obtain ⟨j, hj, rfl, vM, hmk, hbq⟩ := hrel
            by_cases hjl : j < m.length
            · obtain ⟨b', off', z, rfl, hb', hc', hz, hzb⟩ := URow.pick (URow.below HU.out hbq (Nat.le_refl _)) hjl
              have HZ : Hid _ := hz
              have HK : Hid _ := hmk
              have HBQ : Hid _ := hbq
              clear hz hmk hbq
              go_wp2_with fail
              refine (addMark45 wo.heap.size wo.heap.size vM vI (.pointer none) j _ (z : Nat) _ HK.out.nd HK.out.ownM (by have := HBQ.out.size; omega) (by omega)).mono ?_
              rintro e w3 ⟨rfl, vM', nd3, own3, at3, kept3⟩
              have HK3 : Hid _ := Mk.addMark HK.out HZ.out nd3 own3 kept3
              have HB3 : Hid (Below wo.heap.size wo w3) := kept3.below HBQ.out HBQ.out.size (fun b hb hS => by
                rcases hS with rfl | h
                · omega
                · have := (HK.out.ownM.lt b h).1; omega)
              clear nd3 own3 at3 kept3
              go_wp2
              go_roundw
              case rel => exact ⟨j + 1, by omega, by go_num, _, HK3.out, HB3.out⟩
              case measure => simp [intOf]; omega
            · obtain rfl : j = m.length := by omega
              have HST : Hid _ := bld_step HBL.out HM.out HFM.out hbq (hmk.weaken hsz) (Nat.le_refl _)
              have l1 := (hbq.cell (p := ⟨gN, k, none⟩) (by show gN < _; omega)).trans (HBL.out.nil k (Nat.le_refl _) (by have := HL.out; omega))
              have l2 := (hbq.frozen (p := ⟨gN, k, none⟩) (by show gN < _; omega)).trans (HBL.out.nilF k)
              have l3 := (hbq.cell (p := ⟨gN + 1, k, none⟩) (by show gN + 1 < _; omega)).trans (HBL.out.nilI k (Nat.le_refl _) (by have := HL.out; omega))
              have l4 := (hbq.frozen (p := ⟨gN + 1, k, none⟩) (by show gN + 1 < _; omega)).trans (HBL.out.nilIF k)
              clear hmk hbq
              go_wp2
              go_roundw
              case rel => exact ⟨k + 1, by omega, by go_num, HST.out⟩
              case measure => simp [intOf]; omega
    · obtain rfl : n = k := by omega
      have HBL' := HBL.out
      rw [← HL.out] at HBL'
      obtain ⟨nb, it, hlay⟩ := bld_done HBL'
      have HLAY : Hid _ := hlay
      have HBel : Hid _ := HBL'.bel
      have hlo := HBL'.lo
      clear hlay HBL' HBL
      obtain ⟨wo, hwo⟩ : ∃ wo, wo = wr := ⟨_, rfl⟩
      subst hwo
      go_wp2
      go_loopw [14] (fun i wq => ∃ k : Nat, k ≤ n - 1 ∧ i = .int .i64 k ∧ LayK wq ls r (gN + 2) gN (gN + 1) k (fun _ s => (s : Int)) nb it ∧ Below w.heap.size w wq) (fun i _ => n - (intOf i).toNat)
      case atStart => exact ⟨0, Nat.zero_le _, rfl, HLAY.out, HBel.out⟩
      case round =>
        clear HLAY HBel
        obtain ⟨k, hk, rfl, hlay, hbel⟩ := hrel
        have hl := HL.out
        by_cases hlt : k + 1 < n
        · have HLAY : Hid _ := hlay
          have HBel : Hid _ := hbel
          have HNX : Hid _ := hlay.setNext HF.out (show k < ls.length by omega)
          obtain ⟨c1, c3, c4, c5⟩ := hlay.node (show k < ls.length by omega)
          obtain ⟨c2, _⟩ := hlay.node (show k + 1 < ls.length by omega)
          rw [if_neg (Nat.lt_irrefl k)] at c3
          have i1 : (k : Int) < (n : Int) := by omega
          have i2 : (k : Int) + 1 < (n : Int) := by omega
          have i3 : IntKind.i64.wrap ((k : Int) + 1) = (k : Int) + 1 := by rw [IntKind.wrap_i64]; omega
          have i4 : ((k : Int) + 1).toNat = k + 1 := by omega
          have i5 : (0 : Int) ≤ (k : Int) + 1 := by omega
          clear hlay hbel hl
          go_wp2
          go_region_with (go_at_call 46; refine (next46 (nb k) (some ⟨nb (k + 1), 0, none⟩) (.pointer none) _ (by simpa using c3) (by simpa using c4)).mono ?_; rintro e w' ⟨rfl, rfl⟩)
          all_goals go_wp2
          all_goals
            go_roundw
            case rel => exact ⟨k + 1, by omega, by go_num, LayK.drew HNX.out, (HBel.out.setCell (by show _ ≤ nb k; omega) _).drew⟩
            case measure => simp [intOf]; omega
        · obtain rfl : k = n - 1 := by omega
          have HLAY : Hid _ := hlay
          have HBel : Hid _ := hbel
          clear hlay hbel hl
          go_wp2
          go_ret2
          refine ⟨nb, it, ?_, ?_, HBel.out⟩
          · rw [← HGN.out]; rfl
          · rw [← HGN.out]; exact HLAY.out

end Go.Proofs.Qxb6615153a

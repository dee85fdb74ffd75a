import Derived.Test.Qxb6615153aFirst2
namespace Go.Proofs.Qxb6615153a
open Go.RowKit
set_option linter.unusedVariables false
set_option linter.unusedSimpArgs false

theorem Try.info62 : (Try.prog.info? 62).map (fun i => (i.zero, i.size, i.bytes)) = some (some (.slice none 0 0), 1, 24) := by kernel_rfl
theorem Try.info4 : (Try.prog.info? 4).map (fun i => (i.zero, i.size, i.bytes)) = some (some (.bool false), 1, 1) := by kernel_rfl

/-- the table of what was visited -/
def Vis (w : World) (ls : List (List Nat)) (gV : Nat) (vis : Nat → Nat → Bool) : Prop :=
  w.rowIs gV 62 ls.length (fun j => .slice (some ⟨gV + 1 + j, 0, none⟩) (ls.getD j []).length (ls.getD j []).length) ∧ ∀ j, j < ls.length → w.rowIs (gV + 1 + j) 4 (ls.getD j []).length (fun i => .bool (vis j i))

/-- .. as far as k -/
def VisK (w : World) (ls : List (List Nat)) (gV k : Nat) : Prop :=
  w.rowIs gV 62 ls.length (fun j => if j < k then .slice (some ⟨gV + 1 + j, 0, none⟩) (ls.getD j []).length (ls.getD j []).length else .slice none 0 0) ∧ ∀ j, j < k → w.rowIs (gV + 1 + j) 4 (ls.getD j []).length (fun i => .bool false)

theorem vis_step {w : World} {ls : List (List Nat)} {gV k : Nat} {m : List Nat} (h : VisK w ls gV k) (hm : ls[k]? = some m) (hsz : w.heap.size = gV + 1 + k) :
    VisK ((w.setCell ⟨gV, k, none⟩ (.slice (some ⟨gV + 1 + k, 0, none⟩) m.length m.length)).alloc (.cells (madeCells #[.bool false] m.length) 4)) ls gV (k + 1) := by
  have e : ls.getD k [] = m := by rw [List.getD_eq_getElem?_getD, hm]; rfl
  refine ⟨((h.1.set k _).alloc _).congr (fun j hj => ?_), fun j hj => ?_⟩
  · by_cases e1 : j = k
    · subst e1; simp [hm]
    · by_cases e2 : j < k
      · simp [e1, e2, show j < k + 1 by omega]
      · simp [e1, e2, show ¬ j < k + 1 by omega]
  · by_cases e1 : j = k
    · subst e1
      rw [e]
      have := World.rowIs_made (w.setCell ⟨gV, j, none⟩ (.slice (some ⟨gV + 1 + j, 0, none⟩) m.length m.length)) (.bool false) m.length 4
      have e2 : (w.setCell ⟨gV, j, none⟩ (.slice (some ⟨gV + 1 + j, 0, none⟩) m.length m.length)).heap.size = gV + 1 + j := by simp [World.setCell, hsz]
      rw [e2] at this
      exact this
    · exact ((h.2 j (by omega)).setOther (by simp <;> omega) _).alloc _

theorem vis_done {w : World} {ls : List (List Nat)} {gV : Nat} (h : VisK w ls gV ls.length) : Vis w ls gV (fun _ _ => false) :=
  ⟨h.1.congr (fun j hj => by simp [hj]), fun j hj => h.2 j hj⟩

theorem Vis.set {w : World} {ls : List (List Nat)} {gV : Nat} {vis : Nat → Nat → Bool} (h : Vis w ls gV vis) (p q : Nat) : Vis (w.setCell ⟨gV + 1 + p, q, none⟩ (.bool true)) ls gV (fun L i => if L = p ∧ i = q then true else vis L i) := by
  refine ⟨h.1.setOther (by simp <;> omega) _, fun j hj => ?_⟩
  by_cases e : j = p
  · subst e
    exact ((h.2 j hj).set q (.bool true)).congr (fun i _ => by by_cases e : i = q <;> simp [e])
  · exact ((h.2 j hj).setOther (by simp <;> omega) _).congr (fun i _ => by simp [e])

theorem Vis.at_pos {w : World} {ls : List (List Nat)} {gV : Nat} {vis : Nat → Nat → Bool} (h : Vis w ls gV vis) {L i : Nat} {m : List Nat} (hm : ls[L]? = some m) (hi : i < m.length) :
    w.cell? ⟨gV, L, none⟩ = some (.slice (some ⟨gV + 1 + L, 0, none⟩) m.length m.length) ∧ w.cell? ⟨gV + 1 + L, i, none⟩ = some (.bool (vis L i)) ∧ w.frozen? ⟨gV + 1 + L, i, none⟩ = false := by
  have hL := (List.getElem?_eq_some_iff.1 hm).1
  have e : ls.getD L [] = m := by rw [List.getD_eq_getElem?_getD, hm]; rfl
  have h1 := h.1.cell hL
  have h2 := h.2 L hL
  rw [e] at h1 h2
  exact ⟨h1, h2.cell hi, h2.frozen i⟩

/-- what newVisited leaves -/
def NewVis (w : World) (ls : List (List Nat)) (n : Nat) (e : Ending) (w' : World) : Prop :=
  e = .returned (.slice (some ⟨w.heap.size, 0, none⟩) n n) ∧ Vis w' ls w.heap.size (fun _ _ => false) ∧ Below w.heap.size w w'

set_option maxHeartbeats 1000000 in
theorem visited33 (a : Option Addr) (n c : Nat) (ls : List (List Nat)) (w : World) (hs : LRow w a n ls) (hn : n ≤ 4096) (hf : ∀ m ∈ ls, Fit m) :
    Calls Try.prog 33 #[.slice a n c] w (NewVis w ls n) := by
  have hl := hs.1
  have hmk := run_make_row' (P := Try.prog) 60 62 (.slice none 0 0) 24 Try.underlying60 Try.info62 rfl .i64 .i64 n (by omega) (by omega)
  have H0 : Hid (VisK (w.alloc (.cells (madeCells #[.slice none 0 0] n) 62)) ls w.heap.size 0) := by
    refine ⟨?_, fun j hj => absurd hj (by omega)⟩
    rw [hl]
    exact (World.rowIs_made w (.slice none 0 0) n 62).congr (fun j _ => by simp)
  have HS : Hid (LRow w a n ls) := hs
  have HF : Hid _ := hf
  have HL : Hid _ := hl
  clear hs hf hl
  go_enter Try.func33, Try.ntmps33
  go_wp2
  clear hmk
  obtain ⟨gV, hgV⟩ : ∃ g, g = w.heap.size := ⟨_, rfl⟩
  rw [← hgV] at H0 ⊢
  have HG : Hid _ := hgV
  clear hgV
  go_loopw [4] (fun i wr => ∃ k : Nat, k ≤ n ∧ i = .int .i64 (k : Int) ∧ VisK wr ls gV k ∧ wr.heap.size = gV + 1 + k ∧ Below w.heap.size w wr) (fun i _ => n - (intOf i).toNat)
  case atStart => exact ⟨0, Nat.zero_le _, rfl, H0.out, by simp [HG.out], (Below.refl _ _).alloc (Nat.le_refl _) _⟩
  case round =>
    clear H0
    obtain ⟨k, hk, rfl, hv, hsz, hbel⟩ := hrel
    by_cases hlt : k < n
    · obtain ⟨b, off, aL, cL, m, rfl, _, hc, hm, _, _⟩ := LRow.pick (LRow.below HS.out hbel (Nat.le_refl _)) hlt
      have hroom := (HF.out m (List.mem_of_getElem? hm)).room
      have hmk := run_make_row' (P := Try.prog) 62 4 (.bool false) 1 Try.underlying62 Try.info4 rfl .i64 .i64 m.length (by omega) (by omega)
      have hkl : k < ls.length := by have := HL.out; omega
      have c1 := hv.1.cell hkl
      rw [if_neg (Nat.lt_irrefl k)] at c1
      have c2 := hv.1.frozen k
      have hgl := hv.1.lt
      have HV : Hid _ := vis_step hv hm hsz
      have HSZ : Hid _ := hsz
      have HB : Hid (Below w.heap.size w ((wr.setCell ⟨gV, k, none⟩ (.slice (some ⟨wr.heap.size, 0, none⟩) m.length m.length)).alloc (.cells (madeCells #[.bool false] m.length) 4))) := (hbel.setCell (by rw [HG.out]; exact Nat.le_refl _) _).alloc (by have := hbel.size; simp [World.setCell]; omega) _
      clear hv hsz hbel hm
      go_wp2
      go_roundw
      case rel =>
        refine ⟨k + 1, by omega, by go_num, ?_, ?_, HB.out⟩
        · have := HV.out; rw [← HSZ.out] at this; exact this
        · have := HSZ.out; simp [World.setCell]; omega
      case measure => simp [intOf]; omega
    · obtain rfl : n = k := by omega
      have HV : Hid _ := hv
      have HB : Hid _ := hbel
      clear hv hbel hsz
      go_wp2
      go_ret
      have h1 := HV.out
      rw [← HL.out] at h1
      refine ⟨by rw [HG.out]; rfl, by rw [← HG.out]; exact vis_done h1, HB.out⟩

end Go.Proofs.Qxb6615153a

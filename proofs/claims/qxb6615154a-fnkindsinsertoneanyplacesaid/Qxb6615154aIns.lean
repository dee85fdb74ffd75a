import Derived.Test.Qxb6615154aLaw3
import Derived.OwnWalk
import Derived.Laws.OwnMore
namespace Go.Proofs.Qxb6615154a
open Go.RowKit
set_option linter.unusedVariables false
set_option linter.unusedSimpArgs false

/-- the cells of a list of events -/
def evList (ps : List (ByteArray × ByteArray)) : List Value := ps.flatMap fun p => evCells p.1 p.2

theorem evCells_length (s t : ByteArray) : (evCells s t).length = 13 := rfl
theorem evList_cons (p : ByteArray × ByteArray) (ps : List (ByteArray × ByteArray)) : evList (p :: ps) = evCells p.1 p.2 ++ evList ps := rfl
theorem evList_append (ps qs : List (ByteArray × ByteArray)) : evList (ps ++ qs) = evList ps ++ evList qs := by simp [evList]
theorem evList_length (ps : List (ByteArray × ByteArray)) : (evList ps).length = ps.length * 13 := by
  induction ps with
  | nil => rfl
  | cons p ps ih => rw [evList_cons, List.length_append, ih, evCells_length, List.length_cons]; omega

theorem evList_get {ps : List (ByteArray × ByteArray)} {i : Nat} {p : ByteArray × ByteArray} (h : ps[i]? = some p) (j : Nat) (hj : j < 13) : (evList ps)[i * 13 + j]? = (evCells p.1 p.2)[j]? := by
  induction ps generalizing i with
  | nil => simp at h
  | cons q ps ih =>
    rw [evList_cons]
    cases i with
    | zero =>
      simp at h
      subst h
      rw [List.getElem?_append_left (by rw [evCells_length]; omega)]
      congr 1
      omega
    | succ i =>
      rw [List.getElem?_append_right (by rw [evCells_length]; omega), evCells_length]
      have := ih (i := i) (by simpa using h)
      rw [← this]
      congr 1
      omega

theorem evList_at {ps : List (ByteArray × ByteArray)} {x : Nat} {u : Value} (h : (evList ps)[x]? = some u) : ∃ p, ps[x / 13]? = some p ∧ (evCells p.1 p.2)[x % 13]? = some u := by
  have hx := (List.getElem?_eq_some_iff.1 h).1
  rw [evList_length] at hx
  have hi : x / 13 < ps.length := by omega
  refine ⟨ps[x / 13], by simp [hi], ?_⟩
  have := evList_get (ps := ps) (i := x / 13) (p := ps[x / 13]) (by simp [hi]) (x % 13) (by omega)
  rw [← this, show x / 13 * 13 + x % 13 = x by omega]
  exact h

theorem evCells_one (s t : ByteArray) : ∀ u ∈ evCells s t, u.oneCell' = true := by
  intro u hu
  simp [evCells] at hu
  rcases hu with rfl | rfl | rfl | rfl | rfl | rfl | rfl | rfl | rfl | rfl | rfl | rfl | rfl <;> rfl
theorem evList_one (ps : List (ByteArray × ByteArray)) : ∀ u ∈ evList ps, u.oneCell' = true := by
  intro u hu
  obtain ⟨p, _, h⟩ := List.mem_flatMap.1 hu
  exact evCells_one _ _ u h

/-- the cells behind a slice of events -/
theorem FRow.news {w : World} {b off n : Nat} {ps : List (ByteArray × ByteArray)} (h : FRow w (some ⟨b, off, none⟩) n ps) : ∀ j u, (evList ps)[j]? = some u → w.cell? ((⟨b, off, none⟩ : Addr).add j) = some u := by
  intro j u hu
  obtain ⟨p, hp, hv⟩ := evList_at hu
  obtain ⟨hl, h | ⟨b', off', ha, hlt, hc⟩⟩ := h
  · have := (List.getElem?_eq_some_iff.1 hp).1; omega
  · simp at ha
    obtain ⟨rfl, rfl⟩ := ha
    rw [Addr.add_lit]
    have := hc _ p hp _ _ hv
    rw [← this]
    congr 2
    omega

theorem frow_owns {w : World} {base g n cap : Nat} {ps : List (ByteArray × ByteArray)} (h : w.ownsRow base 47 13 (.slice (some ⟨g, 0, none⟩) n cap) n (evList ps)) : FRow w (some ⟨g, 0, none⟩) n ps := by
  have hl : ps.length = n := by have := h.1; rw [evList_length] at this; omega
  refine ⟨hl, .inr ⟨g, 0, rfl, (h.lt g rfl).2, fun i p hp j v hv => ?_⟩⟩
  have hi := (List.getElem?_eq_some_iff.1 hp).1
  have hj := (List.getElem?_eq_some_iff.1 hv).1
  rw [evCells_length] at hj
  rw [Nat.zero_add, h.cellAt _ (by omega), evList_get hp j hj]
  exact hv

theorem make25cap (n : Nat) (hn : n ≤ 65536) (w : World) : (Instr.makeSlice 25 (.int .i64 0) (.int .i64 ((n : Int) + 1))).run Try.prog w = .ok (.slice (some ⟨w.heap.size, 0, none⟩) 0 (n + 1)) (w.alloc (.cells (evZero (n + 1)) 47)) := by
  obtain ⟨i, hi, hz, hs, hb⟩ := info_parts Try.info47
  have := run_make (P := Try.prog) w 25 47 i _ Try.underlying25 hi hz .i64 .i64 0 ((n : Int) + 1) (by omega) (by omega) (by rw [hb]; omega) (by omega)
  have e : ((n : Int) + 1).toNat = n + 1 := by omega
  simp only [e, hs] at this
  exact this

/-- one event more, at k -/
def ins (ps : List (ByteArray × ByteArray)) (k : Nat) (s t : ByteArray) : List (ByteArray × ByteArray) := ps.take k ++ (s, t) :: ps.drop k
theorem ins_at {ps : List (ByteArray × ByteArray)} {k : Nat} (hk : k ≤ ps.length) (s t : ByteArray) : kd (ins ps k s t) k = t := by
  apply kd_at (s := s)
  unfold ins
  rw [List.getElem?_append_right (by simp; omega)]
  simp [Nat.min_eq_left hk]
theorem ins_lt {ps : List (ByteArray × ByteArray)} {k j : Nat} (hk : k ≤ ps.length) (hj : j < k) (s t : ByteArray) : kd (ins ps k s t) j = kd ps j := by
  unfold kd ins
  rw [List.getD_eq_getElem?_getD, List.getD_eq_getElem?_getD, List.getElem?_append_left (by simp; omega), List.getElem?_take, if_pos hj]
theorem ins_gt {ps : List (ByteArray × ByteArray)} {k j : Nat} (hk : k ≤ ps.length) (hj : k ≤ j) (s t : ByteArray) : kd (ins ps k s t) (j + 1) = kd ps j := by
  unfold kd ins
  rw [List.getD_eq_getElem?_getD, List.getD_eq_getElem?_getD, List.getElem?_append_right (by simp; omega)]
  rw [List.length_take, Nat.min_eq_left hk, show j + 1 - k = (j - k) + 1 by omega, List.getElem?_cons_succ, List.getElem?_drop, show k + (j - k) = j by omega]

theorem ins_cells (ps : List (ByteArray × ByteArray)) (k : Nat) (s t : ByteArray) : evList (ps.take k) ++ evCells s t ++ evList (ps.drop k) = evList (ins ps k s t) := by
  unfold ins
  rw [evList_append, evList_cons, List.append_assoc]

end Go.Proofs.Qxb6615154a

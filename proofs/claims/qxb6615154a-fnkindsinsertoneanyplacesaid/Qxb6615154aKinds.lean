import Derived.Test.Qxb6615154aMake
namespace Go.Proofs.Qxb6615154a
open Go.RowKit
set_option linter.unusedVariables false
set_option linter.unusedSimpArgs false

theorem Try.info35 : (Try.prog.info? 35).map (fun i => (i.zero, i.size, i.bytes)) = some (some (.string ByteArray.empty), 1, 16) := by kernel_rfl

/-- the kind of the j-th event -/
def kd (ps : List (ByteArray × ByteArray)) (j : Nat) : ByteArray := (ps.getD j (ByteArray.empty, ByteArray.empty)).2
theorem kd_at {ps : List (ByteArray × ByteArray)} {j : Nat} {s t : ByteArray} (h : ps[j]? = some (s, t)) : kd ps j = t := by
  unfold kd; rw [List.getD_eq_getElem?_getD, h]; rfl

theorem FRow.pick {w : World} {a : Option Addr} {n : Nat} {ps : List (ByteArray × ByteArray)} (h : FRow w a n ps) {k : Nat} (hk : k < n) :
    ∃ b off s t, a = some ⟨b, off, none⟩ ∧ b < w.heap.size ∧ EvAt w b (off + k * 13) s t ∧ ps[k]? = some (s, t) := by
  obtain ⟨hl, h | ⟨b, off, ha, hb, hc⟩⟩ := h
  · omega
  · have hk' : k < ps.length := by omega
    have hp : ps[k]? = some ps[k] := by simp [hk']
    exact ⟨b, off, _, _, ha, hb, hc k _ hp, hp⟩

theorem EvAt.below {B : Nat} {w w' : World} {b off : Nat} {s t : ByteArray} (h : EvAt w b off s t) (hb : Below B w w') (hB : b < B) : EvAt w' b off s t :=
  fun j v hv => (hb.cell (by exact hB)).trans (h j v hv)

theorem FRow.below {B : Nat} {w w' : World} {a : Option Addr} {n : Nat} {ps : List (ByteArray × ByteArray)} (h : FRow w a n ps) (hb : Below B w w') (hB : w.heap.size ≤ B) : FRow w' a n ps := by
  obtain ⟨hl, h | ⟨b, off, ha, hlt, hc⟩⟩ := h
  · exact ⟨hl, .inl h⟩
  · exact ⟨hl, .inr ⟨b, off, ha, by have := hb.size; omega, fun i p hp => (hc i p hp).below hb (by omega)⟩⟩

theorem ERow.below {B : Nat} {w w' : World} {a : Option Addr} {n : Nat} {ps : List (ByteArray × ByteArray)} (h : ERow w a n ps) (hb : Below B w w') (hB : w.heap.size ≤ B) : ERow w' a n ps := by
  obtain ⟨hl, hm, h | ⟨b, off, ha, hlt, hc⟩⟩ := h
  · exact ⟨hl, hm, .inl h⟩
  · exact ⟨hl, hm, .inr ⟨b, off, ha, by have := hb.size; omega, fun i p hp => ⟨(hb.cell (by show b < B; omega)).trans (hc i p hp).1, (hb.cell (by show b < B; omega)).trans (hc i p hp).2⟩⟩⟩

theorem kinds_step {w : World} {g n k : Nat} {ps : List (ByteArray × ByteArray)} {t : ByteArray} (h : w.rowIs g 35 n (fun j => if j < k then .string (kd ps j) else .string ByteArray.empty)) (ht : kd ps k = t) (o : Obj) :
    ((w.setCell ⟨g, k, none⟩ (.string t)).alloc o).rowIs g 35 n (fun j => if j < k + 1 then .string (kd ps j) else .string ByteArray.empty) :=
  ((h.set k (.string t)).alloc o).congr (fun j _ => by
    by_cases e : j = k
    · subst e; simp [ht]
    · by_cases e2 : j < k
      · simp [e, e2, show j < k + 1 by omega]
      · simp [e, e2, show ¬ j < k + 1 by omega])

set_option maxRecDepth 100000 in
set_option maxHeartbeats 400000 in
theorem kinds10 (a : Option Addr) (n c : Nat) (ps : List (ByteArray × ByteArray)) (w : World) (hs : FRow w a n ps) (hn : n ≤ 65537) :
    Calls Try.prog 10 #[.slice a n c] w fun e w' => e = .returned (.slice (some ⟨w.heap.size, 0, none⟩) n n) ∧ w'.rowIs w.heap.size 35 n (fun j => .string (kd ps j)) ∧ Below w.heap.size w w' := by
  have hmk := run_make_row' (P := Try.prog) 27 35 (.string ByteArray.empty) 16 Try.underlying27 Try.info35 rfl .i64 .i64 n (by omega) (by omega)
  have HS : Hid (FRow w a n ps) := hs
  have H0 : Hid ((w.alloc (.cells (madeCells #[.string ByteArray.empty] n) 35)).rowIs w.heap.size 35 n (fun j => if j < 0 then .string (kd ps j) else .string ByteArray.empty)) := (World.rowIs_made w (.string ByteArray.empty) n 35).congr (fun j _ => by simp)
  clear hs
  go_enter Try.func10, Try.ntmps10
  go_wp2
  clear hmk
  obtain ⟨g, hg⟩ : ∃ g, g = w.heap.size := ⟨_, rfl⟩
  have HG : Hid _ := hg
  rw [← hg] at H0 ⊢
  clear hg
  go_loopw [11] (fun i wr => ∃ k : Nat, k ≤ n ∧ i = .int .i64 (k : Int) ∧ wr.rowIs g 35 n (fun j => if j < k then .string (kd ps j) else .string ByteArray.empty) ∧ Below w.heap.size w wr) (fun i _ => n - (intOf i).toNat)
  case atStart => exact ⟨0, Nat.zero_le _, rfl, H0.out, (Below.refl _ _).alloc (Nat.le_refl _) _⟩
  case round =>
    clear H0
    obtain ⟨k, hk, rfl, hrow, hbel⟩ := hrel
    by_cases hlt : k < n
    · obtain ⟨b, off, s, t, rfl, hb, hev, hp⟩ := FRow.pick (FRow.below HS.out hbel (Nat.le_refl _)) hlt
      have c1 := hrow.cell hlt
      have c2 := hrow.frozen k
      have hgl := hrow.lt
      have HN : Hid _ := kinds_step hrow (kd_at hp)
      have HB : Hid (∀ o, Below w.heap.size w ((wr.setCell ⟨g, k, none⟩ (.string t)).alloc o)) := fun o => (hbel.setCell (by rw [HG.out]; exact Nat.le_refl _) _).alloc (by have := hbel.size; simp [World.setCell]; omega) o
      have e0 := hev 0 _ rfl
      have e1 := hev 1 _ rfl
      have e2 := hev 2 _ rfl
      have e3 := hev 3 _ rfl
      have e4 := hev 4 _ rfl
      have e5 := hev 5 _ rfl
      have e6 := hev 6 _ rfl
      have e7 := hev 7 _ rfl
      have e8 := hev 8 _ rfl
      have e9 := hev 9 _ rfl
      have e10 := hev 10 _ rfl
      have e11 := hev 11 _ rfl
      have e12 := hev 12 _ rfl
      rw [Nat.add_zero] at e0
      clear hev hrow hbel hp
      go_wp2
      go_roundw
      case rel => exact ⟨k + 1, by omega, by go_num, HN.out _, HB.out _⟩
      case measure => simp [intOf]; omega
    · obtain rfl : k = n := by omega
      have HR : Hid _ := hrow
      have HB : Hid _ := hbel
      clear hrow hbel
      go_wp2
      go_ret
      refine ⟨by rw [HG.out]; rfl, ?_, HB.out⟩
      rw [← HG.out]
      exact World.rowIs.congr HR.out (fun j hj => by simp [hj])

/-- what Kinds leaves -/
def KindsOf (w : World) (n : Nat) (ps : List (ByteArray × ByteArray)) (e : Ending) (w' : World) : Prop :=
  ∃ g, w.heap.size ≤ g ∧ e = .returned (.slice (some ⟨g, 0, none⟩) n n) ∧ w'.rowIs g 35 n (fun j => .string (kd ps j)) ∧ Below w.heap.size w w'

set_option maxHeartbeats 400000 in
theorem kinds8 (a : Option Addr) (n c : Nat) (y z : Bool) (ps : List (ByteArray × ByteArray)) (w : World) (hs : FRow w a n ps) (hn : n ≤ 65537) :
    Calls Try.prog 8 #[.agg #[.slice a n c, .slice none 0 0, .slice none 0 0, .slice none 0 0, .slice none 0 0, .slice none 0 0, .bool y, .slice none 0 0, .bool z]] w (KindsOf w n ps) := by
  have HS : Hid (FRow w a n ps) := hs
  clear hs
  have hb1 := (Below.refl w.heap.size w).alloc (Nat.le_refl _) (.cells #[.slice a n c, .slice none 0 0, .slice none 0 0, .slice none 0 0, .slice none 0 0, .slice none 0 0, .bool y, .slice none 0 0, .bool z] 33)
  have H1 : Hid _ := FRow.below HS.out hb1 (Nat.le_refl _)
  have HB1 : Hid _ := hb1
  clear hb1
  go_enter Try.func8, Try.ntmps8
  go_wp2_with fail
  refine (kinds10 a n c ps _ H1.out hn).mono ?_
  rintro e w2 ⟨rfl, hrow, hbel⟩
  have hsz : (w.alloc (.cells #[.slice a n c, .slice none 0 0, .slice none 0 0, .slice none 0 0, .slice none 0 0, .slice none 0 0, .bool y, .slice none 0 0, .bool z] 33)).heap.size = w.heap.size + 1 := by simp
  rw [hsz] at hrow
  have HR : Hid _ := hrow
  have HB : Hid _ := HB1.out.trans (hbel.mono (by simp))
  clear hrow hbel hsz
  go_wp2
  go_ret
  exact ⟨w.heap.size + 1, by omega, rfl, HR.out, HB.out⟩

theorem FRow.take {w : World} {b off n : Nat} {ps : List (ByteArray × ByteArray)} (h : FRow w (some ⟨b, off, none⟩) n ps) {c : Nat} (hc : c ≤ n) : FRow w (some ⟨b, off, none⟩) c (ps.take c) := by
  obtain ⟨hl, h | ⟨b', off', ha, hlt, hcell⟩⟩ := h
  · exact ⟨by simp; omega, .inl (by omega)⟩
  · simp at ha
    obtain ⟨rfl, rfl⟩ := ha
    refine ⟨by simp; omega, .inr ⟨b, off, rfl, hlt, fun i p hp => hcell i p ?_⟩⟩
    rw [List.getElem?_take] at hp
    split at hp
    · exact hp
    · cases hp

theorem FRow.drop {w : World} {b off n : Nat} {ps : List (ByteArray × ByteArray)} (h : FRow w (some ⟨b, off, none⟩) n ps) {c : Nat} (hc : c ≤ n) : FRow w (some ⟨b, off + c * 13, none⟩) (n - c) (ps.drop c) := by
  obtain ⟨hl, h | ⟨b', off', ha, hlt, hcell⟩⟩ := h
  · exact ⟨by simp; omega, .inl (by omega)⟩
  · simp at ha
    obtain ⟨rfl, rfl⟩ := ha
    refine ⟨by simp; omega, .inr ⟨b, off + c * 13, rfl, hlt, fun i p hp => ?_⟩⟩
    rw [List.getElem?_drop] at hp
    have := hcell _ p hp
    rw [show off + c * 13 + i * 13 = off + (c + i) * 13 by omega]
    exact this

theorem kd_take {ps : List (ByteArray × ByteArray)} {c j : Nat} (h : j < c) : kd (ps.take c) j = kd ps j := by
  unfold kd; rw [List.getD_eq_getElem?_getD, List.getD_eq_getElem?_getD, List.getElem?_take, if_pos h]
theorem kd_drop {ps : List (ByteArray × ByteArray)} {c j : Nat} : kd (ps.drop c) j = kd ps (c + j) := by
  unfold kd; rw [List.getD_eq_getElem?_getD, List.getD_eq_getElem?_getD, List.getElem?_drop]

end Go.Proofs.Qxb6615154a

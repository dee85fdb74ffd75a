import Derived.Test.Qxb6615154aEv
namespace Go.Proofs.Qxb6615154a
open Go.RowKit
set_option linter.unusedVariables false
set_option linter.unusedSimpArgs false

/-- an event's thirteen cells -/
def evCells (s t : ByteArray) : List Value := [.string s, .string t, .int .u64 0, .int .i64 0, .pointer none, .pointer none, .int .i32 0, .pointer none, .int .i32 0, .pointer none, .int .i32 0, .pointer none, .int .i32 0]

theorem Try.info47 : (Try.prog.info? 47).map (fun i => (i.zero, i.size, i.bytes)) = some (some (.agg (evCells ByteArray.empty ByteArray.empty).toArray), 13, 120) := by kernel_rfl

/-- n zero events -/
def evZero (n : Nat) : Array Value := madeCells (Value.agg (evCells ByteArray.empty ByteArray.empty).toArray).cells (n * 13)

theorem make25 (n : Nat) (hn : n ≤ 65537) (w : World) : (Instr.makeSlice 25 (.int .i64 (n : Int)) (.int .i64 (n : Int))).run Try.prog w = .ok (.slice (some ⟨w.heap.size, 0, none⟩) n n) (w.alloc (.cells (evZero n) 47)) := by
  obtain ⟨i, hi, hz, hs, hb⟩ := info_parts Try.info47
  have := run_make (P := Try.prog) w 25 47 i _ Try.underlying25 hi hz .i64 .i64 n n (by omega) (Int.le_refl _) (by rw [hb]; omega) (by omega)
  simp only [Int.toNat_natCast, hs] at this
  exact this

/-- an event lies at off -/
def EvAt (w : World) (b off : Nat) (s t : ByteArray) : Prop := ∀ j v, (evCells s t)[j]? = some v → w.cell? ⟨b, off + j, none⟩ = some v

/-- a slice of events of the project that reads ps -/
def FRow (w : World) (a : Option Addr) (n : Nat) (ps : List (ByteArray × ByteArray)) : Prop :=
  ps.length = n ∧ (n = 0 ∨ ∃ b off, a = some ⟨b, off, none⟩ ∧ b < w.heap.size ∧ ∀ (i : Nat) (p : ByteArray × ByteArray), ps[i]? = some p → EvAt w b (off + i * 13) p.1 p.2)

/-- the row while it is filled -/
structure Fill (w : World) (g n : Nat) (ps : List (ByteArray × ByteArray)) (k : Nat) : Prop where
  lt : g < w.heap.size
  there : ∀ x, x < n * 13 → (w.cell? ⟨g, x, none⟩).isSome = true
  free : ∀ x, w.frozen? ⟨g, x, none⟩ = false
  done : ∀ (i : Nat) (p : ByteArray × ByteArray), i < k → ps[i]? = some p → EvAt w g (i * 13) p.1 p.2

theorem fill_start (w : World) (n : Nat) (ps : List (ByteArray × ByteArray)) : Fill (w.alloc (.cells (evZero n) 47)) w.heap.size n ps 0 := by
  have h := heap_alloc_new w (.cells (evZero n) 47)
  have hs : (evZero n).size = n * 13 := size_madeCells _ _
  refine ⟨lt_of_block h, fun x hx => ?_, fun x => ?_, fun i p hi => absurd hi (by omega)⟩
  · simp only [World.cell?]; rw [h]
    show ((evZero n)[x]?).isSome = true
    simp [hs, hx]
  · simp only [World.frozen?]; rw [h]; rfl

theorem fill_step {w : World} {g n : Nat} {ps : List (ByteArray × ByteArray)} {k : Nat} {s t : ByteArray} (h : Fill w g n ps k) (hk : k < n) (hp : ps[k]? = some (s, t)) : Fill (w.setCells g (k * 13) (evCells s t)) g n ps (k + 1) := by
  have hin := World.cell?_setCells_in g (evCells s t) (k * 13) w (fun j hj => h.there _ (by simp [evCells] at hj; omega))
  have hout : ∀ x, x < k * 13 ∨ k * 13 + 13 ≤ x → (w.setCells g (k * 13) (evCells s t)).cell? ⟨g, x, none⟩ = w.cell? ⟨g, x, none⟩ := fun x hx =>
    World.cell?_setCells_out g (evCells s t) (k * 13) w ⟨g, x, none⟩ (fun _ _ => by simpa [evCells] using hx)
  refine ⟨?_, fun x hx => ?_, fun x => by rw [World.frozen?_setCells]; exact h.free x, fun i p hi hp' => ?_⟩
  · have := h.lt
    simp [evCells, World.setCells, World.setCell]; omega
  · by_cases hr : k * 13 ≤ x ∧ x < k * 13 + 13
    · have := hin (x - k * 13) (by simp [evCells]; omega)
      rw [show k * 13 + (x - k * 13) = x by omega] at this
      rw [this]; rfl
    · rw [hout x (by omega)]; exact h.there x hx
  · by_cases e : i = k
    · subst e
      rw [hp] at hp'
      obtain rfl := Option.some.inj hp'
      intro j v hv
      obtain ⟨hj, rfl⟩ := List.getElem?_eq_some_iff.1 hv
      exact hin j hj
    · intro j v hv
      have hj := (List.getElem?_eq_some_iff.1 hv).1
      simp [evCells] at hj
      rw [hout _ (by omega)]
      exact h.done i p (by omega) hp' j v hv

theorem below_setCells {B : Nat} {w0 w : World} (h : Below B w0 w) {g : Nat} (hg : B ≤ g) : ∀ (vs : List Value) (o : Nat), Below B w0 (w.setCells g o vs) := by
  intro vs
  induction vs generalizing w with
  | nil => intro o; exact h
  | cons v r ih => intro o; exact ih (h.setCell (by exact hg) v) (o + 1)

theorem setCells13 (w : World) (g o : Nat) (s t : ByteArray) : w.setCells g o (evCells s t) = ((((((((((((w.setCell ⟨g, o, none⟩ (.string s)).setCell ⟨g, o + 1, none⟩ (.string t)).setCell ⟨g, o + 2, none⟩ (.int .u64 0)).setCell ⟨g, o + 3, none⟩ (.int .i64 0)).setCell ⟨g, o + 4, none⟩ (.pointer none)).setCell ⟨g, o + 5, none⟩ (.pointer none)).setCell ⟨g, o + 6, none⟩ (.int .i32 0)).setCell ⟨g, o + 7, none⟩ (.pointer none)).setCell ⟨g, o + 8, none⟩ (.int .i32 0)).setCell ⟨g, o + 9, none⟩ (.pointer none)).setCell ⟨g, o + 10, none⟩ (.int .i32 0)).setCell ⟨g, o + 11, none⟩ (.pointer none)).setCell ⟨g, o + 12, none⟩ (.int .i32 0) := rfl
theorem Fill.drew {w : World} {g n : Nat} {ps : List (ByteArray × ByteArray)} {k : Nat} (h : Fill w g n ps k) : Fill w.drew g n ps k := ⟨h.lt, h.there, h.free, h.done⟩

set_option maxHeartbeats 400000 in
theorem events7 (a : Option Addr) (n c : Nat) (ps : List (ByteArray × ByteArray)) (w : World) (hs : ERow w a n ps) (hn : n ≤ 65536) :
    Calls Try.prog 7 #[.slice a n c] w fun e w' => e = .returned (.slice (some ⟨w.heap.size, 0, none⟩) n n) ∧ FRow w' (some ⟨w.heap.size, 0, none⟩) n ps ∧ Below w.heap.size w w' := by
  have hmk := make25 n (by omega)
  have HS : Hid (ERow w a n ps) := hs
  have hl := hs.1
  have HL : Hid _ := hl
  have H0 : Hid _ := fill_start w n ps
  clear hs hl
  go_enter Try.func7, Try.ntmps7
  go_wp2
  clear hmk
  obtain ⟨g, hg⟩ : ∃ g, g = w.heap.size := ⟨_, rfl⟩
  have HG : Hid _ := hg
  rw [← hg] at H0 ⊢
  clear hg
  go_loopw [4] (fun i wr => ∃ k : Nat, k ≤ n ∧ i = .int .i64 (k : Int) ∧ Below w.heap.size w wr ∧ Fill wr g n ps k) (fun i _ => n - (intOf i).toNat)
  case atStart => exact ⟨0, Nat.zero_le _, rfl, (Below.refl _ _).alloc (Nat.le_refl _) _, H0.out⟩
  case round =>
    clear H0
    obtain ⟨k, hk, rfl, hbel, hfill⟩ := hrel
    by_cases hlt : k < n
    · obtain ⟨b, off, s, t, rfl, hb, c1, c2, hp, m1, m2⟩ := ERow.pick HS.out hlt
      have c1' := (hbel.cell (p := ⟨b, off + k * 2, none⟩) (by exact hb)).trans c1
      have c2' := (hbel.cell (p := ⟨b, off + k * 2 + 1, none⟩) (by exact hb)).trans c2
      have i1 : (k : Int) < (n : Int) := by omega
      have hcel : ∀ x, x < n * 13 → ∃ v, wr.cell? ⟨g, x, none⟩ = some v := fun x hx => Option.isSome_iff_exists.1 (hfill.there x hx)
      have hfr := hfill.free
      have HN : Hid _ := fill_step hfill hlt hp
      have HB : Hid _ := below_setCells hbel (g := g) (by rw [HG.out]; exact Nat.le_refl _) (evCells s t) (k * 13)
      rw [setCells13] at HN HB
      obtain ⟨x0, e0⟩ := hcel (k * 13) (by omega)
      obtain ⟨x1, e1⟩ := hcel (k * 13 + 1) (by omega)
      obtain ⟨x2, e2⟩ := hcel (k * 13 + 2) (by omega)
      obtain ⟨x3, e3⟩ := hcel (k * 13 + 3) (by omega)
      obtain ⟨x4, e4⟩ := hcel (k * 13 + 4) (by omega)
      obtain ⟨x5, e5⟩ := hcel (k * 13 + 5) (by omega)
      obtain ⟨x6, e6⟩ := hcel (k * 13 + 6) (by omega)
      obtain ⟨x7, e7⟩ := hcel (k * 13 + 7) (by omega)
      obtain ⟨x8, e8⟩ := hcel (k * 13 + 8) (by omega)
      obtain ⟨x9, e9⟩ := hcel (k * 13 + 9) (by omega)
      obtain ⟨x10, e10⟩ := hcel (k * 13 + 10) (by omega)
      obtain ⟨x11, e11⟩ := hcel (k * 13 + 11) (by omega)
      obtain ⟨x12, e12⟩ := hcel (k * 13 + 12) (by omega)
      clear c1 c2 hcel hbel hfill hp
      go_wp2
      go_region
      all_goals go_wp2
      all_goals
        go_roundw
        case rel => exact ⟨k + 1, by omega, by go_num, Below.drew HB.out, Fill.drew HN.out⟩
        case measure => simp [intOf]; omega
    · obtain rfl : k = n := by omega
      have HFI : Hid _ := hfill
      have HB : Hid _ := hbel
      clear hfill hbel
      go_wp2
      go_ret
      refine ⟨by rw [HG.out]; rfl, ?_, HB.out⟩
      refine ⟨HL.out, .inr ⟨w.heap.size, 0, rfl, by rw [← HG.out]; exact HFI.out.lt, fun i p hp => ?_⟩⟩
      rw [Nat.zero_add, ← HG.out]
      exact HFI.out.done i p (by have := (List.getElem?_eq_some_iff.1 hp).1; have := HL.out; omega) hp
end Go.Proofs.Qxb6615154a

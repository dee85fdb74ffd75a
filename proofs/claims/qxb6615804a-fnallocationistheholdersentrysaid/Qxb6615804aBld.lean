import Derived.Test.Qxb6615804aTab
import Derived.Deep.AppendLies
import Derived.Deep.RegionLaw
import Derived.Deep.CutRange
import Derived.Maps.OwnSet
namespace Go.Proofs.Qxb6615804a
open Go.RowKit
set_option linter.unusedVariables false
set_option linter.unusedSimpArgs false

/-- an allocation's cells -/
def entCells (x : Ent) : List Value := [.string x.h, .string x.t, .int .u64 0, .int .u64 (x.v : Int), .int .i64 x.b, .pointer none, .pointer none]

/-- a slot's cells -/
def slCell (x : Ent) : List Value := entCells x ++ [.int .i8 0]

/-- m slots from place a on -/
def slCells (X : Nat → Ent) (a m : Nat) : List Value := (List.range m).flatMap fun j => slCell (X (a + j))

/-- a chunk's cells -/
def chCell (g n c e : Nat) : List Value := [.slice (some ⟨g, 0, none⟩) n c, .int .i64 (e : Int), .int .i8 0, .bool false]

def chCells (s ib cp : Nat → Nat) (k : Nat) : List Value := (List.range k).flatMap fun c => chCell (ib c) (s (c + 1) - s c) (cp c) (s (c + 1))

theorem flat_len {α : Type} (f : Nat → List α) (z : Nat) (hf : ∀ j, (f j).length = z) (m : Nat) : ((List.range m).flatMap f).length = m * z := by
  induction m with
  | zero => simp
  | succ m ih => rw [List.range_succ, List.flatMap_append, List.length_append, ih]; simp [hf, Nat.succ_mul]

theorem flat_at {α : Type} (f : Nat → List α) (z : Nat) (hf : ∀ j, (f j).length = z) (m j q : Nat) (hj : j < m) (hq : q < z) : ((List.range m).flatMap f)[j * z + q]? = (f j)[q]? := by
  induction m with
  | zero => omega
  | succ m ih =>
    rw [List.range_succ, List.flatMap_append]
    have hl := flat_len f z hf m
    by_cases e : j < m
    · rw [List.getElem?_append_left]
      · exact ih e
      · rw [hl]
        have : (j + 1) * z ≤ m * z := Nat.mul_le_mul_right _ e
        rw [Nat.succ_mul] at this
        omega
    · obtain rfl : j = m := by omega
      rw [List.getElem?_append_right (by rw [hl]; omega), hl]
      simp

theorem slCells_len (X : Nat → Ent) (a m : Nat) : (slCells X a m).length = m * 8 := flat_len _ 8 (fun _ => rfl) m
theorem chCells_len (s ib cp : Nat → Nat) (k : Nat) : (chCells s ib cp k).length = k * 4 := flat_len _ 4 (fun _ => rfl) k
theorem slCells_succ (X : Nat → Ent) (a m : Nat) : slCells X a (m + 1) = slCells X a m ++ slCell (X (a + m)) := by simp [slCells, List.range_succ, List.flatMap_append]
theorem chCells_succ (s ib cp : Nat → Nat) (k : Nat) : chCells s ib cp (k + 1) = chCells s ib cp k ++ chCell (ib k) (s (k + 1) - s k) (cp k) (s (k + 1)) := by simp [chCells, List.range_succ, List.flatMap_append]

theorem chCells_congr {s ib cp ib' cp' : Nat → Nat} {k : Nat} (h : ∀ c, c < k → ib' c = ib c ∧ cp' c = cp c) : chCells s ib' cp' k = chCells s ib cp k := by
  unfold chCells
  rw [List.flatMap_def, List.flatMap_def]
  congr 1
  apply List.map_congr_left
  intro c hc
  obtain ⟨h1, h2⟩ := h c (by simpa using hc)
  rw [h1, h2]

/-- how an element of the map reads -/
def uR (v : Value) : Option (DataW Unit × List MemPlace) :=
  match v with
  | .agg cs => match cs.toList with
    | [.int .u64 z, .int .u64 x] => if z = 0 then some (.lit (.int .u64 x), []) else none
    | _ => none
  | _ => none

theorem uR_mk (x : Int) : uR (.agg #[.int .u64 0, .int .u64 x]) = some (.lit (.int .u64 x), []) := by simp [uR]

theorem uR_inv {v : Value} {x : Int} {ps : List MemPlace} (h : uR v = some (.lit (.int .u64 x), ps)) : v = .agg #[.int .u64 0, .int .u64 x] := by
  unfold uR at h
  split at h
  · rename_i cs
    split at h
    · rename_i z y heq
      split at h
      · rename_i hz
        simp at h
        obtain ⟨rfl, _⟩ := h
        subst hz
        have : cs = #[.int .u64 0, .int .u64 y] := by
          apply Array.toList_inj.mp
          rw [heq]
        rw [this]
      · simp at h
    · simp at h
  · simp at h

/-- what the map reads as behind k entries -/
def Dk (X : Nat → Ent) : Nat → DataW Unit
  | 0 => .map []
  | k + 1 => (Dk X k).put (.string (X k).h.data.toList) (.lit (.int .u64 ((X k).v : Int)))

theorem unitOf_any (x : Int) (w : World) : Calls Try.prog 15 #[.int .u64 x] w fun e w' => e = .returned (.agg #[.int .u64 0, .int .u64 x]) ∧ w' = w.alloc (.cells #[.int .u64 0, .int .u64 x] 31) := by
  go_enter Try.func15, Try.ntmps15
  go_wp2
  refine bodyPost_ret (v := .agg #[.int .u64 0, .int .u64 x]) (by simp [results, Try.results15, go_sem]) rfl ⟨rfl, rfl⟩

theorem countOf_any (x : Int) (w : World) : Calls Try.prog 18 #[.int .u64 x] w fun e w' => e = .returned (.agg #[.int .u64 0, .int .u64 0, .int .u64 x]) ∧ w' = (w.alloc (.cells #[.int .u64 0, .int .u64 0, .int .u64 x] 49)).alloc (.cells #[.int .u64 0, .int .u64 x] 31) := by
  go_enter Try.func18, Try.ntmps18
  go_wp2_with fail
  refine (unitOf_any _ _).mono ?_
  rintro e w' ⟨rfl, rfl⟩
  go_wp2
  refine bodyPost_ret (v := .agg #[.int .u64 0, .int .u64 0, .int .u64 x]) (by simp [results, Try.results18, go_sem]) rfl ⟨rfl, rfl⟩

/-- n values that lie in a row -/
def CRow (w : World) (a : Option Addr) (n : Nat) (f : Nat → Value) : Prop :=
  n = 0 ∨ ∃ b off, a = some ⟨b, off, none⟩ ∧ b < w.heap.size ∧ ∀ i, i < n → w.cell? ⟨b, off + i, none⟩ = some (f i)

theorem CRow.pick {w : World} {a : Option Addr} {n : Nat} {f : Nat → Value} (h : CRow w a n f) {i : Nat} (hi : i < n) : ∃ b off, a = some ⟨b, off, none⟩ ∧ b < w.heap.size ∧ w.cell? ⟨b, off + i, none⟩ = some (f i) := by
  rcases h with h | ⟨b, off, h1, h2, h3⟩
  · omega
  · exact ⟨b, off, h1, h2, h3 i hi⟩

theorem CRow.below {w w' : World} {a : Option Addr} {n : Nat} {f : Nat → Value} {B : Nat} (h : CRow w a n f) (hb : Below B w w') (hB : w.heap.size ≤ B) : CRow w' a n f := by
  rcases h with h | ⟨b, off, h1, h2, h3⟩
  · exact .inl h
  · exact .inr ⟨b, off, h1, by have := hb.size; omega, fun i hi => cell_below hb hB (h3 i hi)⟩

/-- k chunks are built -/
structure Bl (w0 wr : World) (tb mb : Nat) (c2 c3 c4 c5 c6 : Value) (s : Nat → Nat) (X : Nat → Ent) (k : Nat) (chv : Value) (ib cp : Nat → Nat) : Prop where
  below : Below w0.heap.size w0 wr
  tbB : w0.heap.size ≤ tb
  mbB : w0.heap.size ≤ mb
  tab : wr.heap[tb]? = some (.cells #[.map (some mb), chv, c2, c3, c4, c5, c6] 56 (0, 0))
  row : wr.ownsRow w0.heap.size 62 4 chv k (chCells s ib cp k)
  its : ∀ c, c < k → ∃ cs, wr.heap[ib c]? = some (.cells cs 60 (0, 0)) ∧ ∀ j, s c + j < s (c + 1) → ∀ q, q < 8 → cs[j * 8 + q]? = (slCell (X (s c + j)))[q]?

section
variable {w0 wr : World} {tb mb : Nat} {c2 c3 c4 c5 c6 : Value} {s : Nat → Nat} {X : Nat → Ent} {k : Nat} {chv : Value} {ib cp : Nat → Nat}

theorem lt_heap {w : World} {b : Nat} {o : Obj} (h : w.heap[b]? = some o) : b < w.heap.size := by
  rcases Nat.lt_or_ge b w.heap.size with h1 | h1
  · exact h1
  · rw [Array.getElem?_eq_none h1] at h; cases h

theorem own_block {w : World} {base e size n : Nat} {v : Value} {xs : List Value} (h : w.ownsRow base e size v n xs) {g : Nat} (hg : v.ownBlock = some g) : base ≤ g ∧ ∃ cs, w.heap[g]? = some (.cells cs e (0, 0)) := by
  rcases h.2 with ⟨rfl, _⟩ | ⟨g', cap, cur, rfl, hb, hc, _⟩
  · simp [Value.ownBlock] at hg
  · simp [Value.ownBlock] at hg
    subst hg
    exact ⟨hb, cur, hc⟩

theorem Bl.keep (h : Bl w0 wr tb mb c2 c3 c4 c5 c6 s X k chv ib cp) {w' : World} {row : Option Nat} (hg : wr.grownBy w' row) (h0 : ∀ b, row = some b → w0.heap.size ≤ b) (h1 : row ≠ some tb) (h2 : ∀ b, chv.ownBlock = some b → row ≠ some b) (h3 : ∀ c, c < k → row ≠ some (ib c)) :
    Bl w0 w' tb mb c2 c3 c4 c5 c6 s X k chv ib cp where
  below := h.below.grown hg h.below.size h0
  tbB := h.tbB
  mbB := h.mbB
  tab := (hg.block _ (lt_heap h.tab) (Ne.symm h1)).trans h.tab
  row := h.row.kept hg (by
    cases hv : chv.ownBlock with
    | none => exact .inl rfl
    | some b => exact .inr (fun e => h2 b hv e.symm))
  its := fun c hc => by
    obtain ⟨cs, e1, e2⟩ := h.its c hc
    exact ⟨cs, (hg.block _ (lt_heap e1) (Ne.symm (h3 c hc))).trans e1, e2⟩

theorem Bl.more (h : Bl w0 wr tb mb c2 c3 c4 c5 c6 s X k chv ib cp) {w' : World} (hg : wr.grownBy w' none) : Bl w0 w' tb mb c2 c3 c4 c5 c6 s X k chv ib cp :=
  h.keep hg (by simp) (by simp) (by simp) (by simp)

/-- the row of slots that is being built is apart from all else -/
theorem Bl.apart (h : Bl w0 wr tb mb c2 c3 c4 c5 c6 s X k chv ib cp) {g : Nat} {cs : Array Value} (hg : wr.heap[g]? = some (.cells cs 60 (0, 0))) : (some g ≠ some tb) ∧ (∀ b, chv.ownBlock = some b → some g ≠ some b) := by
  constructor
  · intro e
    simp at e
    subst e
    rw [h.tab] at hg
    simp at hg
  · intro b hb e
    simp at e
    subst e
    obtain ⟨_, cs', hc⟩ := own_block h.row hb
    rw [hc] at hg
    simp at hg

/-- the map turns: the rest stays -/
theorem Bl.turned (h : Bl w0 wr tb mb c2 c3 c4 c5 c6 s X k chv ib cp) {w' : World} (ht : wr.mapTurned w' mb) : Bl w0 w' tb mb c2 c3 c4 c5 c6 s X k chv ib cp := by
  obtain ⟨es, clock, _, _, hm, _⟩ := id ht
  refine h.keep ht.grown (fun b hb => by simp at hb; subst hb; exact h.mbB) (fun e => ?_) (fun b hb e => ?_) (fun c hc e => ?_)
  · simp at e
    subst e
    rw [h.tab] at hm
    simp at hm
  · simp at e
    subst e
    obtain ⟨_, cs', hcs⟩ := own_block h.row hb
    rw [hcs] at hm
    simp at hm
  · simp at e
    subst e
    obtain ⟨cs, e1, _⟩ := h.its c hc
    rw [e1] at hm
    simp at hm

theorem lies_tab (h : Bl w0 wr tb mb c2 c3 c4 c5 c6 s X k chv ib cp) : wr.cell? ⟨tb, 0, none⟩ = some (.map (some mb)) ∧ wr.cell? ⟨tb, 1, none⟩ = some chv ∧ ∀ o, wr.frozen? ⟨tb, o, none⟩ = false := by
  refine ⟨?_, ?_, ?_⟩
  · rw [cell_of_row wr tb 0 _ _ _ h.tab]; rfl
  · rw [cell_of_row wr tb 1 _ _ _ h.tab]; rfl
  · intro o
    first
    | exact free_of_row wr tb o _ _ h.tab
    | simp [World.frozen?, h.tab]
end

end Go.Proofs.Qxb6615804a

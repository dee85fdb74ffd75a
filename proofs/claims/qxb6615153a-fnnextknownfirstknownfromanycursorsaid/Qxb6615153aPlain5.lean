import Derived.Test.Qxb6615153aBytes5
namespace Go.Proofs.Qxb6615153a
open Go.RowKit

/-- what came back from copyBytes -/
def Copied (w : World) (n : Nat) (zs : List Int) (e : Ending) (w' : World) : Prop :=
  ∃ ao c', e = .returned (.slice ao n c') ∧ (ao = none → n = 0) ∧ BRow w' ao n zs ∧ w'.ownsRow w.heap.size 5 1 (.slice ao n c') n (zs.map (Value.int .u8)) ∧ Below w.heap.size w w'

theorem map_getD (zs : List Int) : (List.range zs.length).map (fun i => Value.int .u8 (zs.getD i 0)) = zs.map (Value.int .u8) := by
  apply List.ext_getElem
  · simp
  · intro i h1 h2
    simp at h1 h2
    simp [h1]

set_option maxHeartbeats 400000 in
theorem copy_any (a : Option Addr) (n c : Nat) (zs : List Int) (w : World) (hn : n ≤ 1048576) (hr : BRow w a n zs) (h0 : a = none → n = 0) :
    Calls Try.prog 10 #[.slice a n c] w (Copied w n zs) := by
  cases a with
  | none =>
    obtain rfl := h0 rfl
    have hz : zs = [] := List.eq_nil_of_length_eq_zero hr.1
    subst hz
    have hnil : ∀ W : World, (binOp .eql 22 (.slice none 0 c) (.slice none 0 0)).run Try.prog W = .ok (.bool true) W := fun W => Lib.run_eql_slice_nil W _ _ none 0 c 0 0 Try.underlying22
    go_enter Try.func10, Try.ntmps10
    go_wp2
    go_ret
    exact ⟨none, 0, rfl, fun _ => rfl, ⟨rfl, .inl rfl⟩, World.ownsRow_nil _ _ _ _, Below.refl _ _⟩
  | some x =>
    refine (copy_some x n c zs w hn hr).mono ?_
    rintro e w' ⟨rfl, hrow, hb⟩
    refine ⟨_, _, rfl, (fun h => by cases h), ⟨hr.1, .inr ⟨_, _, rfl, hrow.lt, fun i hi => by rw [Nat.zero_add]; exact hrow.cell hi⟩⟩, ?_, hb⟩
    have := ownsRow_of_rowIs (base := w.heap.size) hrow (Nat.le_refl _) (by unfold maxLen; omega)
    rw [← hr.1, map_getD, hr.1] at this
    exact this

theorem BRow.below {B : Nat} {w w' : World} {a : Option Addr} {n : Nat} {zs : List Int} (h : BRow w a n zs) (hb : Below B w w') (hB : w.heap.size ≤ B) : BRow w' a n zs := by
  obtain ⟨hl, h | ⟨b, off, ha, hlt, hc⟩⟩ := h
  · exact ⟨hl, .inl h⟩
  · exact ⟨hl, .inr ⟨b, off, ha, by have := hb.size; omega, fun i hi => (hb.cell (by show b < B; omega)).trans (hc i hi)⟩⟩

theorem SRow.below {B : Nat} {w w' : World} {a : Option Addr} {n : Nat} {ss : List ByteArray} (h : SRow w a n ss) (hb : Below B w w') (hB : w.heap.size ≤ B) : SRow w' a n ss := by
  obtain ⟨hl, hm, h | ⟨b, off, ha, hlt, hc⟩⟩ := h
  · exact ⟨hl, hm, .inl h⟩
  · exact ⟨hl, hm, .inr ⟨b, off, ha, by have := hb.size; omega, fun i hi => (hb.cell (by show b < B; omega)).trans (hc i hi)⟩⟩

/-- the bytes of the first k strings -/
def tot (ss : List ByteArray) (k : Nat) : Nat := ((ss.take k).map ByteArray.size).sum
def pcells (ss : List ByteArray) (k : Nat) : List Value := (ss.take k).flatMap byteCells

theorem tot_zero (ss : List ByteArray) : tot ss 0 = 0 := by simp [tot]
theorem pcells_zero (ss : List ByteArray) : pcells ss 0 = [] := by simp [pcells]
theorem take_at {α : Type} (ss : List α) (k : Nat) (s : α) (h : ss[k]? = some s) : ss.take (k + 1) = ss.take k ++ [s] := by
  rw [List.take_add_one, h]; rfl
theorem tot_succ (ss : List ByteArray) (k : Nat) (s : ByteArray) (h : ss[k]? = some s) : tot ss (k + 1) = tot ss k + s.size := by
  unfold tot; rw [take_at ss k s h]; simp
theorem pcells_succ (ss : List ByteArray) (k : Nat) (s : ByteArray) (h : ss[k]? = some s) : pcells ss (k + 1) = pcells ss k ++ byteCells s := by
  unfold pcells; rw [take_at ss k s h]; simp
theorem pcells_length (ss : List ByteArray) (k : Nat) : (pcells ss k).length = tot ss k := by
  unfold pcells tot
  rw [List.length_flatMap]
  congr 1
  apply List.map_congr_left
  intro s _
  exact byteCells_length s

theorem byteCells_at (s : ByteArray) (j : Nat) (h : j < s.size) : (byteCells s)[j]? = some (.int .u8 (s[j].toNat)) := by
  unfold byteCells
  rw [List.getElem?_map]
  have : s.data.toList[j]? = some s[j] := by
    rw [List.getElem?_eq_getElem (by simpa using h)]; rfl
  rw [this]; rfl

theorem pcells_at (ss : List ByteArray) (n k : Nat) (s : ByteArray) (hs : ss[k]? = some s) (hk : k < n) (j : Nat) (hj : j < s.size) :
    (pcells ss n)[tot ss k + j]? = some (.int .u8 (s[j].toNat)) := by
  obtain ⟨d, rfl⟩ : ∃ d, n = k + 1 + d := ⟨n - (k + 1), by omega⟩
  induction d with
  | zero =>
    rw [Nat.add_zero, pcells_succ ss k s hs, List.getElem?_append_right (by rw [pcells_length]; omega), pcells_length, Nat.add_sub_cancel_left]
    exact byteCells_at s j hj
  | succ d ih =>
    have ih' := ih (by omega)
    by_cases h : k + 1 + d < ss.length
    · rw [← Nat.add_assoc, pcells_succ ss (k + 1 + d) ss[k + 1 + d] (by simp [h])]
      rw [List.getElem?_append_left]
      · exact ih'
      · exact (List.getElem?_eq_some_iff.1 ih').1
    · have e : pcells ss (k + 1 + (d + 1)) = pcells ss (k + 1 + d) := by
        unfold pcells
        rw [List.take_of_length_le (by omega), List.take_of_length_le (by omega)]
      rw [e]; exact ih'

/-- the cells of an owned row of bytes, as the walk asks -/
theorem own_at {w : World} {base n c : Nat} {ao : Option Addr} {xs : List Value} (h : w.ownsRow base 5 1 (.slice ao n c) n xs) {j : Nat} {u : Value} (hj : xs[j]? = some u) :
    ∃ g, ao = some ⟨g, 0, none⟩ ∧ w.cell? ⟨g, j, none⟩ = some u ∧ j < n := by
  have hlt := (List.getElem?_eq_some_iff.1 hj).1
  have hl := h.1
  rcases h.2 with ⟨hv, hn⟩ | ⟨g, cap, cur, hv, r⟩
  · omega
  · simp at hv
    obtain ⟨rfl, rfl⟩ := hv
    exact ⟨g, rfl, by rw [h.cellAt j (by omega)]; exact hj, by omega⟩

theorem tot_mono (ss : List ByteArray) {k n : Nat} (h : k ≤ n) : tot ss k ≤ tot ss n := by
  obtain ⟨d, rfl⟩ : ∃ d, n = k + d := ⟨n - k, by omega⟩
  clear h
  induction d with
  | zero => exact Nat.le_refl _
  | succ d ih =>
    refine Nat.le_trans ih ?_
    by_cases h : k + d < ss.length
    · rw [← Nat.add_assoc, tot_succ ss (k + d) ss[k + d] (by simp [h])]; omega
    · unfold tot
      rw [List.take_of_length_le (by omega), List.take_of_length_le (by omega)]
      exact Nat.le_refl _

theorem drewN_cell (w : World) (m : Nat) (a : Addr) : (w.drewN m).cell? a = w.cell? a := rfl

/-- the cell of the piece just written -/
theorem new_at {w : World} {base n0 k c : Nat} {ao : Option Addr} {z0 : List Int} {ss : List ByteArray} {s : ByteArray} (hl : z0.length = n0) (h : w.ownsRow base 5 1 (.slice ao (n0 + tot ss k + s.size) c) (n0 + tot ss k + s.size) (z0.map (Value.int .u8) ++ pcells ss k ++ byteCells s))
    {j : Nat} (hj : j < s.size) : ∃ g, ao = some ⟨g, 0, none⟩ ∧ w.cell? ⟨g, n0 + tot ss k + j, none⟩ = some (.int .u8 (s[j].toNat)) := by
  have e : (z0.map (Value.int .u8) ++ pcells ss k ++ byteCells s)[n0 + tot ss k + j]? = some (.int .u8 (s[j].toNat)) := by
    rw [List.getElem?_append_right (by simp [pcells_length, hl])]
    simp only [List.length_append, List.length_map, pcells_length, hl]
    rw [show n0 + tot ss k + j - (n0 + tot ss k) = j by omega]
    exact byteCells_at s j hj
  obtain ⟨g, h1, h2, _⟩ := own_at h e
  exact ⟨g, h1, h2⟩

/-- the cells of all that was written -/
theorem all_at {w : World} {base n0 n c : Nat} {ao : Option Addr} {z0 : List Int} {ss : List ByteArray} (hl : z0.length = n0) (h : w.ownsRow base 5 1 (.slice ao (n0 + tot ss n) c) (n0 + tot ss n) (z0.map (Value.int .u8) ++ pcells ss n)) :
    (∀ i, i < n0 → ∃ g, ao = some ⟨g, 0, none⟩ ∧ w.cell? ⟨g, i, none⟩ = some (.int .u8 (z0.getD i 0))) ∧
    (∀ (k : Nat) (s : ByteArray), ss[k]? = some s → k < n → ∀ j, (hj : j < s.size) → ∃ g, ao = some ⟨g, 0, none⟩ ∧ w.cell? ⟨g, n0 + tot ss k + j, none⟩ = some (.int .u8 (s[j].toNat))) := by
  constructor
  · intro i hi
    have e : (z0.map (Value.int .u8) ++ pcells ss n)[i]? = some (.int .u8 (z0.getD i 0)) := by
      rw [List.getElem?_append_left (by simp [hl]; omega)]
      simp [show i < z0.length by omega]
    obtain ⟨g, h1, h2, _⟩ := own_at h e
    exact ⟨g, h1, h2⟩
  · intro k s hs hk j hj
    have e : (z0.map (Value.int .u8) ++ pcells ss n)[n0 + tot ss k + j]? = some (.int .u8 (s[j].toNat)) := by
      rw [List.getElem?_append_right (by simp [hl]; omega)]
      simp only [List.length_map, hl]
      rw [show n0 + tot ss k + j - n0 = tot ss k + j by omega]
      exact pcells_at ss n k s hs hk j hj
    obtain ⟨g, h1, h2, _⟩ := own_at h e
    exact ⟨g, h1, h2⟩

/-- what the loop of writes holds of the world -/
def Inv5 (w2 : World) (g : Nat) (z0 : List Int) (ss : List ByteArray) (k : Nat) (wr : World) : Prop :=
  ∃ v1, Wr wr g (.slice none 0 0) v1 0 0 0 0 0 0 ∧ wr.ownsRow w2.heap.size 5 1 v1 (z0.length + tot ss k) (z0.map (Value.int .u8) ++ pcells ss k) ∧ Below w2.heap.size w2 wr ∧ w2.heap.size ≤ g

theorem inv5_start {w2 w3 w4 : World} {z0 : List Int} {ss : List ByteArray} {n0 : Nat} {v : Value} (hl : z0.length = n0) (hown : w3.ownsRow w2.heap.size 5 1 v n0 (z0.map (Value.int .u8))) (hb : Below w2.heap.size w2 w3)
    (hw : Wr w4 w3.heap.size (.slice none 0 0) v 0 0 0 0 0 0) (o : Obj) (e : w4 = w3.alloc o) : Inv5 w2 w3.heap.size z0 ss 0 w4 := by
  subst e
  refine ⟨v, hw, ?_, hb.alloc hb.size _, hb.size⟩
  rw [tot_zero, pcells_zero, List.append_nil, hl]
  exact hown.alloc _

theorem inv5_step {w2 wr w5 : World} {g : Nat} {z0 : List Int} {ss : List ByteArray} {k : Nat} {s : ByteArray} {v1 v1' : Value} (hs : ss[k]? = some s)
    (hown : wr.ownsRow w2.heap.size 5 1 v1 (z0.length + tot ss k) (z0.map (Value.int .u8) ++ pcells ss k)) (hb : Below w2.heap.size w2 wr) (hg : w2.heap.size ≤ g)
    (hw' : Wr w5 g (.slice none 0 0) v1' 0 0 0 0 0 0) (hown' : w5.ownsRow w2.heap.size 5 1 v1' (z0.length + tot ss k + s.size) (z0.map (Value.int .u8) ++ pcells ss k ++ byteCells s))
    (hk : Kept (fun k => k = g ∨ v1.ownBlock = some k) wr w5) (m : Nat) : Inv5 w2 g z0 ss (k + 1) (w5.drewN m) := by
  refine ⟨v1', hw', ?_, ?_, hg⟩
  · rw [tot_succ ss k s hs, pcells_succ ss k s hs, ← Nat.add_assoc, ← List.append_assoc]
    exact hown'
  · have := hk.below hb hb.size (fun j hj hS => by
      rcases hS with rfl | h
      · omega
      · have := (hown.lt j h).1; omega)
    exact ⟨this.os, this.tape, this.output, this.size, this.block⟩

end Go.Proofs.Qxb6615153a

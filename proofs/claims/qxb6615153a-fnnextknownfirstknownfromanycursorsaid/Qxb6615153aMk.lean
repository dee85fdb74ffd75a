import Derived.Test.Qxb6615153aLay
namespace Go.Proofs.Qxb6615153a
open Go.RowKit
set_option linter.unusedVariables false
set_option linter.unusedSimpArgs false

/-- an item's whole block -/
def ItB (w : World) (g r : Nat) (x y : Int) : Prop := ∃ cs : Array Value, w.heap[g]? = some (.cells cs 96 (0, 0)) ∧ cs[1]? = some (.pointer (some ⟨r, 0, none⟩)) ∧ cs[2]? = some (.int .i32 x) ∧ cs[5]? = some (.int .i32 y)

theorem ItB.it {w : World} {g r : Nat} {x y : Int} (h : ItB w g r x y) : It w g r x y := by
  obtain ⟨cs, h0, h1, h2, h3⟩ := h
  refine ⟨?_, ?_, ?_, ?_⟩
  · simp only [World.cell?]; rw [h0]; exact h1
  · simp only [World.cell?]; rw [h0]; exact h2
  · simp only [World.cell?]; rw [h0]; exact h3
  · simp only [World.frozen?]; rw [h0]; rfl

theorem item43B (r : Nat) (x y : Int) (w : World) : Calls Try.prog 43 #[.pointer (some ⟨r, 0, none⟩), .int .i32 x, .int .i32 y] w fun e w' => e = .returned (.pointer (some ⟨w.heap.size, 0, none⟩)) ∧ ItB w' w.heap.size r x y ∧ Below w.heap.size w w' ∧ w'.heap.size = w.heap.size + 1 := by
  go_enter Try.func43, Try.ntmps43
  go_wp2
  go_ret
  exact ⟨rfl, ⟨_, heap_alloc_new w _, rfl, rfl, rfl⟩, (Below.refl _ _).alloc (Nat.le_refl _) _, by simp⟩

theorem own_move {w w' : World} {base e size n : Nat} {v : Value} {xs : List Value} (h : w.ownsRow base e size v n xs) (hb : ∀ b, v.ownBlock = some b → w'.heap[b]? = w.heap[b]?) : w'.ownsRow base e size v n xs := by
  refine ⟨h.1, ?_⟩
  rcases h.2 with h2 | ⟨g, cap, cur, rfl, hg, hh, r⟩
  · exact .inl h2
  · exact .inr ⟨g, cap, cur, rfl, hg, by rw [hb g rfl]; exact hh, r⟩

/-- the type of an owned row's block -/
theorem own_type {w : World} {base e size n b : Nat} {v : Value} {xs : List Value} (h : w.ownsRow base e size v n xs) (hb : v.ownBlock = some b) : ∃ cur, w.heap[b]? = some (.cells cur e (0, 0)) := by
  rcases h.2 with ⟨rfl, _⟩ | ⟨g, cap, cur, rfl, hg, hh, r⟩
  · simp [Value.ownBlock] at hb
  · simp [Value.ownBlock] at hb
    subst hb
    exact ⟨cur, hh⟩

/-- a leaf in the making: j items, i marks -/
structure Mk (w : World) (r B g gS k : Nat) (m : List Nat) (j i : Nat) (it : Nat → Nat) (vM vI : Value) : Prop where
  nd : Nd w g vM vI (.pointer none)
  ownI : w.ownsRow B 94 1 vI j ((List.range j).map fun s => .pointer (some ⟨it s, 0, none⟩))
  ownM : w.ownsRow B 132 1 vM i ((m.take i).map fun z => .int .u32 (z : Nat))
  row : w.rowIs gS 94 m.length (fun s => if s < j then .pointer (some ⟨it s, 0, none⟩) else .pointer none)
  rowne : vI.ownBlock ≠ some gS
  items : ∀ s, s < j → ItB w (it s) r ((k * 256 + s : Nat) : Int) (s : Int)
  itB : ∀ s, s < j → B ≤ it s

theorem ItB.move {w w' : World} {g r : Nat} {x y : Int} (h : ItB w g r x y) (hb : w'.heap[g]? = w.heap[g]?) : ItB w' g r x y := by
  obtain ⟨cs, h0, h1⟩ := h
  exact ⟨cs, hb.trans h0, h1⟩

/-- a new item is made and stored in its slot -/
theorem Mk.newItem {w w1 : World} {r B g gS k : Nat} {m : List Nat} {j i : Nat} {it : Nat → Nat} {vM vI : Value} (h : Mk w r B g gS k m j i it vM vI) (hb : Below w.heap.size w w1) (hit : ItB w1 w.heap.size r ((k * 256 + j : Nat) : Int) (j : Int)) (hB : B ≤ w.heap.size) :
    Nd (w1.setCell ⟨gS, j, none⟩ (.pointer (some ⟨w.heap.size, 0, none⟩))) g vM vI (.pointer none) ∧
    (w1.setCell ⟨gS, j, none⟩ (.pointer (some ⟨w.heap.size, 0, none⟩))).ownsRow B 94 1 vI j ((List.range j).map fun s => .pointer (some ⟨(if s = j then w.heap.size else it s), 0, none⟩)) ∧
    (w1.setCell ⟨gS, j, none⟩ (.pointer (some ⟨w.heap.size, 0, none⟩))).ownsRow B 132 1 vM i ((m.take i).map fun z => .int .u32 (z : Nat)) ∧
    (w1.setCell ⟨gS, j, none⟩ (.pointer (some ⟨w.heap.size, 0, none⟩))).rowIs gS 94 m.length (fun s => if s < j + 1 then .pointer (some ⟨(if s = j then w.heap.size else it s), 0, none⟩) else .pointer none) ∧
    (∀ s, s < j + 1 → ItB (w1.setCell ⟨gS, j, none⟩ (.pointer (some ⟨w.heap.size, 0, none⟩))) (if s = j then w.heap.size else it s) r ((k * 256 + s : Nat) : Int) (s : Int)) ∧
    (∀ s, s < j + 1 → B ≤ (if s = j then w.heap.size else it s)) := by
  obtain ⟨c, hc, hcs⟩ := h.row
  have hgS : gS < w.heap.size := h.row.lt
  have hgl : g < w.heap.size := lt_of_block h.nd
  have hne : g ≠ gS := by
    rintro rfl
    have := h.nd
    unfold Nd at this
    rw [this] at hc; simp at hc
  have eq : ∀ b, b < w.heap.size → b ≠ gS → (w1.setCell ⟨gS, j, none⟩ (.pointer (some ⟨w.heap.size, 0, none⟩))).heap[b]? = w.heap[b]? := fun b hb1 hb2 => by
    rw [Below.heap_setCell _ _ _ _ hb2]; exact hb.block b hb1
  refine ⟨(eq g hgl hne).trans h.nd, ?_, ?_, ?_, ?_, ?_⟩
  · have h1 := own_move (w' := w1.setCell ⟨gS, j, none⟩ (.pointer (some ⟨w.heap.size, 0, none⟩))) h.ownI (fun b hb1 => eq b (h.ownI.lt b hb1).2 (fun e => h.rowne (by rw [hb1, e])))
    have e : ((List.range j).map fun s => Value.pointer (some ⟨(if s = j then w.heap.size else it s), 0, none⟩)) = ((List.range j).map fun s => .pointer (some ⟨it s, 0, none⟩)) := by
      apply List.map_congr_left
      intro s hs
      have : s < j := List.mem_range.1 hs
      rw [if_neg (by omega)]
    rw [e]; exact h1
  · refine own_move h.ownM (fun b hb1 => eq b (h.ownM.lt b hb1).2 (fun e => ?_))
    obtain ⟨cur, hcur⟩ := own_type h.ownM hb1
    rw [e, hc] at hcur; simp at hcur
  · have h1 : w1.rowIs gS 94 m.length (fun s => if s < j then .pointer (some ⟨it s, 0, none⟩) else .pointer none) := h.row.of_block (hb.block gS hgS)
    refine (h1.set j (.pointer (some ⟨w.heap.size, 0, none⟩))).congr (fun s _ => ?_)
    by_cases e : s = j
    · subst e; simp
    · by_cases e2 : s < j
      · simp [e, e2, show s < j + 1 by omega]
      · simp [e, e2, show ¬ s < j + 1 by omega]
  · intro s hs
    by_cases e : s = j
    · subst e
      rw [if_pos rfl]
      exact hit.move (Below.heap_setCell _ _ _ _ (by simp; omega))
    · rw [if_neg e]
      obtain ⟨cs, h0, _⟩ := h.items s (by omega)
      exact (h.items s (by omega)).move (eq _ (lt_of_block h0) (by rintro rfl; rw [h0] at hc; simp at hc))
  · intro s hs
    by_cases e : s = j
    · rw [if_pos e]; exact hB
    · rw [if_neg e]; exact h.itB s (by omega)

theorem range_snoc (it : Nat → Nat) (j : Nat) : (List.range j).map (fun s => Value.pointer (some ⟨it s, 0, none⟩)) ++ [.pointer (some ⟨it j, 0, none⟩)] = (List.range (j + 1)).map fun s => .pointer (some ⟨it s, 0, none⟩) := by
  rw [List.range_succ, List.map_append]; rfl

/-- .. and added to the leaf -/
theorem Mk.addItem {w w' : World} {r B g gS k : Nat} {m : List Nat} {j i : Nat} {it : Nat → Nat} {vM vI vI' : Value}
    (hown : w.ownsRow B 94 1 vI j ((List.range j).map fun s => .pointer (some ⟨it s, 0, none⟩))) (hM : w.ownsRow B 132 1 vM i ((m.take i).map fun z => .int .u32 (z : Nat))) (hnd : Nd w g vM vI (.pointer none))
    (hrow : w.rowIs gS 94 m.length (fun s => if s < j + 1 then .pointer (some ⟨it s, 0, none⟩) else .pointer none)) (hrne : vI.ownBlock ≠ some gS)
    (hit : ∀ s, s < j + 1 → ItB w (it s) r ((k * 256 + s : Nat) : Int) (s : Int)) (hitB : ∀ s, s < j + 1 → B ≤ it s)
    (hnd' : Nd w' g vM vI' (.pointer none)) (hown' : w'.ownsRow B 94 1 vI' (j + 1) ((List.range j).map (fun s => .pointer (some ⟨it s, 0, none⟩)) ++ [.pointer (some ⟨it j, 0, none⟩)]))
    (hat : vI'.ownBlock = vI.ownBlock ∨ vI'.ownBlock = some (w.heap.size + 1)) (hk : Kept (fun b => b = g ∨ vI.ownBlock = some b) w w') : Mk w' r B g gS k m (j + 1) i it vM vI' := by
  obtain ⟨c, hc, hcs⟩ := hrow
  have hgS : gS < w.heap.size := lt_of_block hc
  unfold Nd at hnd
  have hne : gS ≠ g := by
    rintro rfl
    rw [hnd] at hc; simp at hc
  rw [range_snoc] at hown'
  refine ⟨hnd', hown', ?_, ?_, ?_, ?_, hitB⟩
  · refine own_move hM (fun b hb => hk.block b (hM.lt b hb).2 ?_)
    obtain ⟨cur, hcur⟩ := own_type hM hb
    rintro (rfl | hS)
    · rw [hnd] at hcur; simp at hcur
    · obtain ⟨cur', hcur'⟩ := own_type hown hS
      rw [hcur] at hcur'; simp at hcur'
  · exact World.rowIs.of_block ⟨c, hc, hcs⟩ (hk.block gS hgS (fun h => h.elim hne hrne))
  · rcases hat with h | h
    · rw [h]; exact hrne
    · rw [h]; simp; omega
  · intro s hs
    obtain ⟨cs, h0, _⟩ := hit s hs
    refine (hit s hs).move (hk.block _ (lt_of_block h0) ?_)
    rintro (h | h)
    · rw [h, hnd] at h0; simp at h0
    · obtain ⟨cur', hcur'⟩ := own_type hown h
      rw [h0] at hcur'; simp at hcur'

/-- a mark is added to the leaf -/
theorem Mk.addMark {w w' : World} {r B g gS k : Nat} {m : List Nat} {j i z : Nat} {it : Nat → Nat} {vM vI vM' : Value} (h : Mk w r B g gS k m j i it vM vI) (hz : m[i]? = some z)
    (hnd' : Nd w' g vM' vI (.pointer none)) (hown' : w'.ownsRow B 132 1 vM' (i + 1) ((m.take i).map (fun z => .int .u32 (z : Nat)) ++ [.int .u32 (z : Nat)]))
    (hk : Kept (fun b => b = g ∨ vM.ownBlock = some b) w w') : Mk w' r B g gS k m j (i + 1) it vM' vI := by
  obtain ⟨c, hc, hcs⟩ := h.row
  have hnd := h.nd
  unfold Nd at hnd
  refine ⟨hnd', ?_, ?_, ?_, h.rowne, ?_, h.itB⟩
  · refine own_move h.ownI (fun b hb => hk.block b (h.ownI.lt b hb).2 ?_)
    obtain ⟨cur, hcur⟩ := own_type h.ownI hb
    rintro (rfl | hS)
    · rw [hnd] at hcur; simp at hcur
    · obtain ⟨cur', hcur'⟩ := own_type h.ownM hS
      rw [hcur] at hcur'; simp at hcur'
  · rw [take_at m i z hz, List.map_append]
    exact hown'
  · refine World.rowIs.of_block ⟨c, hc, hcs⟩ (hk.block gS (lt_of_block hc) ?_)
    rintro (rfl | hS)
    · rw [hnd] at hc; simp at hc
    · obtain ⟨cur', hcur'⟩ := own_type h.ownM hS
      rw [hc] at hcur'; simp at hcur'
  · intro s hs
    obtain ⟨cs, h0, _⟩ := h.items s hs
    refine (h.items s hs).move (hk.block _ (lt_of_block h0) ?_)
    rintro (h' | h')
    · rw [h', hnd] at h0; simp at h0
    · obtain ⟨cur', hcur'⟩ := own_type h.ownM h'
      rw [h0] at hcur'; simp at hcur'

end Go.Proofs.Qxb6615153a

import Derived.Test.Qxb6615153aNode
namespace Go.Proofs.Qxb6615153a
open Go.RowKit
set_option linter.unusedVariables false
set_option linter.unusedSimpArgs false

/-- a leaf of marks m lies in block nb, its items in the blocks 'it s' -/
structure LeafIs (w : World) (r B gI L : Nat) (m : List Nat) (idx : Nat → Int) (nb : Nat) (nx : Option Addr) (it : Nat → Nat) (aM cM aI cI ib : Nat) : Prop where
  nbB : B ≤ nb
  marks : w.cell? ⟨nb, 8, none⟩ = some (.slice (some ⟨aM, 0, none⟩) m.length cM)
  mark : ∀ i, i < m.length → w.cell? ⟨aM, i, none⟩ = some (.int .u32 ((m.getD i 0 : Nat) : Int))
  items : w.cell? ⟨nb, 9, none⟩ = some (.slice (some ⟨aI, 0, none⟩) m.length cI)
  item : ∀ s, s < m.length → w.cell? ⟨aI, s, none⟩ = some (.pointer (some ⟨it s, 0, none⟩))
  next : w.cell? ⟨nb, 10, none⟩ = some (.pointer nx)
  nextF : w.frozen? ⟨nb, 10, none⟩ = false
  its : w.cell? ⟨gI, L, none⟩ = some (.slice (some ⟨ib, 0, none⟩) m.length m.length)
  itsAt : ∀ s, s < m.length → w.cell? ⟨ib, s, none⟩ = some (.pointer (some ⟨it s, 0, none⟩))
  itB : ∀ s, s < m.length → B ≤ it s
  itI : ∀ s, s < m.length → It w (it s) r ((L * 256 + s : Nat) : Int) (idx s)

/-- what is neither nil nor a hint stays -/
def Stays (w w' : World) : Prop :=
  (∀ q u, w.cell? q = some u → u ≠ .pointer none → u ≠ .slice none 0 0 → (∀ z, u = .int .i32 z → q.off = 2) → w'.cell? q = some u) ∧ ∀ q u, w.cell? q = some u → w.frozen? q = false → w'.frozen? q = false

theorem LeafIs.carry {w w' : World} {r B gI L : Nat} {m : List Nat} {idx idx' : Nat → Int} {nb : Nat} {nx nx' : Option Addr} {it : Nat → Nat} {aM cM aI cI ib : Nat}
    (h : LeafIs w r B gI L m idx nb nx it aM cM aI cI ib) (hs : Stays w w') (hn : w'.cell? ⟨nb, 10, none⟩ = some (.pointer nx')) (hi : ∀ s, s < m.length → w'.cell? ⟨it s, 5, none⟩ = some (.int .i32 (idx' s))) :
    LeafIs w' r B gI L m idx' nb nx' it aM cM aI cI ib where
  nbB := h.nbB
  marks := hs.1 _ _ h.marks (by simp) (by simp) (by simp)
  mark := fun i hi => hs.1 _ _ (h.mark i hi) (by simp) (by simp) (by simp)
  items := hs.1 _ _ h.items (by simp) (by simp) (by simp)
  item := fun s hs' => hs.1 _ _ (h.item s hs') (by simp) (by simp) (by simp)
  next := hn
  nextF := hs.2 _ _ h.next h.nextF
  its := hs.1 _ _ h.its (by simp) (by simp) (by simp)
  itsAt := fun s hs' => hs.1 _ _ (h.itsAt s hs') (by simp) (by simp) (by simp)
  itB := h.itB
  itI := fun s hs' => ⟨hs.1 _ _ (h.itI s hs').1 (by simp) (by simp) (by simp), hs.1 _ _ (h.itI s hs').2.1 (by simp) (by simp) (by simp), hi s hs', hs.2 _ _ (h.itI s hs').2.2.1 (h.itI s hs').2.2.2⟩

theorem stays_below {B : Nat} {w w' : World} (hb : Below B w w') (hB : w.heap.size ≤ B) : Stays w w' :=
  ⟨fun q u h _ _ _ => (hb.cell (Nat.lt_of_lt_of_le (World.block_lt_of_cell? w q h) hB)).trans h, fun q u h hf => (hb.frozen (Nat.lt_of_lt_of_le (World.block_lt_of_cell? w q h) hB)).trans hf⟩

theorem LeafIs.below {B' : Nat} {w w' : World} {r B gI L : Nat} {m : List Nat} {idx : Nat → Int} {nb : Nat} {nx : Option Addr} {it : Nat → Nat} {aM cM aI cI ib : Nat}
    (h : LeafIs w r B gI L m idx nb nx it aM cM aI cI ib) (hb : Below B' w w') (hB : w.heap.size ≤ B') : LeafIs w' r B gI L m idx nb nx it aM cM aI cI ib :=
  h.carry (stays_below hb hB) ((hb.cell (Nat.lt_of_lt_of_le (World.block_lt_of_cell? w _ h.next) hB)).trans h.next)
    (fun s hs => (hb.cell (Nat.lt_of_lt_of_le (World.block_lt_of_cell? w _ (h.itI s hs).2.2.1) hB)).trans (h.itI s hs).2.2.1)

theorem cell_set_ne {w : World} {p q : Addr} {u v : Value} (h : w.cell? q = some u) (hne : q ≠ p) : (w.setCell p v).cell? q = some u := by
  rw [World.cell?_setCell_other _ _ _ _ (Ne.symm hne)]; exact h

theorem stays_set {w : World} {p : Addr} {old v : Value} (hp : w.cell? p = some old) (ho : old = .pointer none ∨ old = .slice none 0 0 ∨ ((∃ z, old = .int .i32 z) ∧ p.off ≠ 2)) : Stays w (w.setCell p v) := by
  refine ⟨fun q u h h1 h2 h3 => cell_set_ne h (fun e => ?_), fun q u h hf => by rw [World.frozen?_setCell]; exact hf⟩
  subst e
  rw [hp] at h
  obtain rfl := Option.some.inj h
  rcases ho with h | h | ⟨⟨z, h⟩, hz⟩
  · exact h1 h
  · exact h2 h
  · exact hz (h3 z h)

/-- the hint of one item is set -/
theorem LeafIs.setIdx {w : World} {r B gI L : Nat} {m : List Nat} {idx : Nat → Int} {nb : Nat} {nx : Option Addr} {it : Nat → Nat} {aM cM aI cI ib : Nat}
    (h : LeafIs w r B gI L m idx nb nx it aM cM aI cI ib) {p L0 s0 : Nat} {z : Int} (v : Int) (hp : It w p r ((L0 * 256 + s0 : Nat) : Int) z) (hm : m.length ≤ 256) (hs0 : s0 < 256) (hL : L = L0 → it s0 = p) :
    LeafIs (w.setCell ⟨p, 5, none⟩ (.int .i32 v)) r B gI L m (fun s => if L = L0 ∧ s = s0 then v else idx s) nb nx it aM cM aI cI ib := by
  refine h.carry (stays_set hp.2.2.1 (.inr (.inr ⟨⟨_, rfl⟩, by simp⟩))) (cell_set_ne h.next (by simp)) (fun s hs => ?_)
  by_cases e : it s = p
  · have h1 := (h.itI s hs).2.1
    rw [e, hp.2.1] at h1
    simp at h1
    have h2 : L = L0 ∧ s = s0 := by omega
    simp only [if_pos h2]
    rw [e]
    exact World.cell?_setCell_same _ _ _ hp.2.2.1
  · have h2 : ¬ (L = L0 ∧ s = s0) := fun h => e (by rw [h.2]; exact hL h.1)
    simp only [if_neg h2]
    exact cell_set_ne (h.itI s hs).2.2.1 (by simp [e])

/-- the whole: every leaf lies, each leads to the next as far as k -/
def LayK (w : World) (ls : List (List Nat)) (r B gN gI k : Nat) (idx : Nat → Nat → Int) (nb : Nat → Nat) (it : Nat → Nat → Nat) : Prop :=
  ∀ j m, ls[j]? = some m → w.cell? ⟨gN, j, none⟩ = some (.pointer (some ⟨nb j, 0, none⟩)) ∧
    ∃ aM cM aI cI ib, LeafIs w r B gI j m (idx j) (nb j) (if j < k then some ⟨nb (j + 1), 0, none⟩ else none) (it j) aM cM aI cI ib

theorem LayK.below {B' : Nat} {w w' : World} {ls : List (List Nat)} {r B gN gI k : Nat} {idx : Nat → Nat → Int} {nb : Nat → Nat} {it : Nat → Nat → Nat} (h : LayK w ls r B gN gI k idx nb it) (hb : Below B' w w') (hB : w.heap.size ≤ B') : LayK w' ls r B gN gI k idx nb it := by
  intro j m hm
  obtain ⟨h1, aM, cM, aI, cI, ib, h2⟩ := h j m hm
  exact ⟨(hb.cell (Nat.lt_of_lt_of_le (World.block_lt_of_cell? w _ h1) hB)).trans h1, aM, cM, aI, cI, ib, h2.below hb hB⟩

theorem LayK.setIdx {w : World} {ls : List (List Nat)} {r B gN gI k : Nat} {idx : Nat → Nat → Int} {nb : Nat → Nat} {it : Nat → Nat → Nat} (h : LayK w ls r B gN gI k idx nb it) (hf : ∀ m ∈ ls, Fit m) {L0 s0 : Nat} {m0 : List Nat} (hm0 : ls[L0]? = some m0) (hs0 : s0 < m0.length) (v : Int) :
    LayK (w.setCell ⟨it L0 s0, 5, none⟩ (.int .i32 v)) ls r B gN gI k (fun L s => if L = L0 ∧ s = s0 then v else idx L s) nb it := by
  intro j m hm
  obtain ⟨h1, aM, cM, aI, cI, ib, h2⟩ := h j m hm
  obtain ⟨_, _, _, _, _, _, h3⟩ := h L0 m0 hm0
  have hp := h3.itI s0 hs0
  have hm0l := (hf m0 (List.mem_of_getElem? hm0)).room
  have hml := (hf m (List.mem_of_getElem? hm)).room
  refine ⟨(stays_set hp.2.2.1 (.inr (.inr ⟨⟨_, rfl⟩, by simp⟩))).1 _ _ h1 (by simp) (by simp) (by simp), aM, cM, aI, cI, ib, ?_⟩
  exact h2.setIdx v hp (by omega) (by omega) (fun e => by rw [e])

/-- two leaves do not share a node -/
theorem LayK.nb_inj {w : World} {ls : List (List Nat)} {r B gN gI k : Nat} {idx : Nat → Nat → Int} {nb : Nat → Nat} {it : Nat → Nat → Nat} (h : LayK w ls r B gN gI k idx nb it) (hf : ∀ m ∈ ls, Fit m) {i j : Nat} {mi mj : List Nat} (hi : ls[i]? = some mi) (hj : ls[j]? = some mj) (e : nb i = nb j) : i = j := by
  obtain ⟨_, aM, cM, aI, cI, ib, h1⟩ := h i mi hi
  obtain ⟨_, aM', cM', aI', cI', ib', h2⟩ := h j mj hj
  have p1 := (hf mi (List.mem_of_getElem? hi)).pos
  have p2 := (hf mj (List.mem_of_getElem? hj)).pos
  have a1 := h1.items
  have a2 := h2.items
  rw [e, a2] at a1
  simp at a1
  obtain ⟨rfl, _, rfl⟩ := a1
  have b1 := h1.item 0 p1
  have b2 := h2.item 0 p2
  rw [b2] at b1
  simp at b1
  have c1 := (h1.itI 0 p1).2.1
  have c2 := (h2.itI 0 p2).2.1
  rw [← b1, c2] at c1
  simp at c1
  omega

theorem LayK.setNext {w : World} {ls : List (List Nat)} {r B gN gI k : Nat} {idx : Nat → Nat → Int} {nb : Nat → Nat} {it : Nat → Nat → Nat} (h : LayK w ls r B gN gI k idx nb it) (hf : ∀ m ∈ ls, Fit m) (hk : k < ls.length) :
    LayK (w.setCell ⟨nb k, 10, none⟩ (.pointer (some ⟨nb (k + 1), 0, none⟩))) ls r B gN gI (k + 1) idx nb it := by
  intro j m hm
  obtain ⟨h1, aM, cM, aI, cI, ib, h2⟩ := h j m hm
  obtain ⟨mk, hmk⟩ : ∃ mk, ls[k]? = some mk := ⟨_, List.getElem?_eq_getElem hk⟩
  obtain ⟨_, _, _, _, _, _, h3⟩ := h k mk hmk
  have hp := h3.next
  rw [if_neg (Nat.lt_irrefl k)] at hp
  have hst := stays_set (v := .pointer (some ⟨nb (k + 1), 0, none⟩)) hp (.inl rfl)
  refine ⟨hst.1 _ _ h1 (by simp) (by simp) (by simp), aM, cM, aI, cI, ib, h2.carry hst ?_ (fun s hs => cell_set_ne (h2.itI s hs).2.2.1 (by simp))⟩
  by_cases e : j = k
  · subst e
    rw [if_pos (Nat.lt_succ_self j)]
    exact World.cell?_setCell_same _ _ _ hp
  · have e1 : (if j < k + 1 then some (⟨nb (j + 1), 0, none⟩ : Addr) else none) = (if j < k then some ⟨nb (j + 1), 0, none⟩ else none) := by
      by_cases h : j < k
      · rw [if_pos h, if_pos (by omega)]
      · rw [if_neg h, if_neg (by omega)]
    rw [e1]
    exact cell_set_ne h2.next (by
      intro h
      simp at h
      exact e (LayK.nb_inj (w := w) ‹_› hf hm hmk h))

end Go.Proofs.Qxb6615153a
